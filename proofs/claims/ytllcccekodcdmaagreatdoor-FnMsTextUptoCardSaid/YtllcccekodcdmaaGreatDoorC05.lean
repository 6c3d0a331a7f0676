import Derived.Test.YtllcccekodcdmaaGreatDoorC04
set_option linter.unusedVariables false
set_option linter.unusedSimpArgs false
set_option maxRecDepth 100000
set_option maxHeartbeats 32000000
open Go.Proofs.Tryz
namespace Go.Proofs.YtllcccekodcdmaaGreatDoor.Ms
open Go Go.RowKit Go.Proofs.ak.aT
theorem byte_at (l:List UInt8) (i:Nat) (c:UInt8) (h:i<(bs l).size) (hc:l[i]?=some c):((((bs l)[i]'h).toNat:Nat):Int)=(c.toNat:Int):=by
 have hi:i<l.length:=by rw[aH]at h;exact h
 rw[gQ hi]at hc
 injection hc with hc
 exact congrArg (fun x:UInt8=>(x.toNat:Int)) ((CS l i h hi).trans hc)
theorem tJ {a b:UInt8} (h:a≠b):(((a.toNat:Int))==(b.toNat:Int))=false:=by
 rw[kS]
 intro e
 exact h (UInt8.toNat_inj.1 (by omega))
theorem dM.ne {c:UInt8} (h:dM c):c≠91∧c≠123∧c≠40∧c≠41:=by
 rcases h with rfl|rfl|rfl|rfl|rfl|rfl|rfl|rfl|rfl|rfl|rfl|rfl|rfl|rfl<;>decide
theorem aaV (c:UInt8) (hc:dM c) (rest:List UInt8) (w:World) :
  uQ 151 #[.string (bs (c::rest))] w (.int .i64 1):=by
 have h1:(bs (c::rest)).toList.isEmpty=false:=by rw[jl];rfl
 have h0:0<(bs (c::rest)).size:=by rw[aH];simp
 obtain⟨n1,n2,n3,_⟩:=hc.ne
 have e:=byte_at _ 0 c h0 rfl
 have h2:((((bs (c::rest))[(0:Nat)]'h0).toNat:Int)==91)=false:=by rw[e];exact tJ n1
 have h3:((((bs (c::rest))[(0:Nat)]'h0).toNat:Int)==123)=false:=by rw[e];exact tJ n2
 have h4:((((bs (c::rest))[(0:Nat)]'h0).toNat:Int)==40)=false:=by rw[e];exact tJ n3
 clear e
 go_enter func151,ntmps151
 go_wp2
 go_ret
 exact⟨rfl,rfl⟩
theorem aeD:∀(n:Nat) (t:T),t.rk≤n→t.wf→∀(rest:List UInt8) (w:World),(t.ty++rest).length≤1000000 →
  uQ 151 #[.string (bs (t.ty++rest))] w (.int .i64 t.ty.length):=by
 intro n
 induction n with
 |zero=>intro t h;have:=t.wU;omega
 |succ n ih =>
 intro t hn hw rest w hl
 match t,hn,hw,hl with
 | .base c,_,hw,_=>exact aaV c hw rest w
 | .arr t,hn,hw,hl =>
   show Calls prog 151 #[.string (bs (91::(t.ty++rest)))] w _
   have h1:(bs (91::(t.ty++rest))).toList.isEmpty=false:=by rw[jl];rfl
   have h0:0<(bs (91::(t.ty++rest))).size:=by rw[aH];simp
   have h01:1≤(bs (91::(t.ty++rest))).size:=h0
   have h2:((((bs (91::(t.ty++rest)))[(0:Nat)]'h0).toNat:Int)==91)=true:=by
    rw[byte_at _ 0 91 h0 rfl];rfl
   simp only[T.rk]at hn
   have hle:(t.ty++rest).length≤1000000:=by simp only[T.ty,lF,d_]at hl;omega
   have hlt:t.ty.length≤1000000:=by rw[dY]at hle;omega
   have hx:=ah (kQ (91::(t.ty++rest)) 1)
   go_enter func151,ntmps151
   go_wp2_with (go_at_call 151;rw[hx.o];refine gU (ih t (by omega) hw rest _ hle) ?_)
   go_ret
   exact⟨by simp[T.ty];omega,rfl⟩
 | .dict k t,hn,hw,hl =>
   show Calls prog 151 #[.string (bs (123::k::(t.ty++rest)))] w _
   have h1:(bs (123::k::(t.ty++rest))).toList.isEmpty=false:=by rw[jl];rfl
   have h0:0<(bs (123::k::(t.ty++rest))).size:=by rw[aH];simp
   have h01:2≤(bs (123::k::(t.ty++rest))).size:=by rw[aH];simp
   have h2:((((bs (123::k::(t.ty++rest)))[(0:Nat)]'h0).toNat:Int)==91)=false:=by
    rw[byte_at _ 0 123 h0 rfl];rfl
   have h3:((((bs (123::k::(t.ty++rest)))[(0:Nat)]'h0).toNat:Int)==123)=true:=by
    rw[byte_at _ 0 123 h0 rfl];rfl
   simp only[T.rk]at hn
   have hle:(t.ty++rest).length≤1000000:=by simp only[T.ty,lF,d_]at hl;omega
   have hlt:t.ty.length≤1000000:=by rw[dY]at hle;omega
   have hx:=ah (kQ (123::k::(t.ty++rest)) 2)
   go_enter func151,ntmps151
   go_wp2_with (go_at_call 151;rw[hx.o];refine gU (ih t (by omega) hw.2 rest _ hle) ?_)
   go_ret
   exact⟨by simp[T.ty];omega,rfl⟩
 | .str ts,hn,hw,hl =>
   have hs:(T.str ts).ty++rest=40::(T.nI ts++(41::rest)):=by simp[T.ty]
   rw[hs]at hl ⊢
   generalize hL:40::(T.nI ts++(41::rest))=L at hl ⊢
   have h1:(bs L).toList.isEmpty=false:=by rw[jl,←hL];rfl
   have h0:0<(bs L).size:=by rw[aH,←hL];simp
   have e:=byte_at L 0 40 h0 (by rw[←hL];rfl)
   have h2:((((bs L)[(0:Nat)]'h0).toNat:Int)==91)=false:=by rw[e];rfl
   have h3:((((bs L)[(0:Nat)]'h0).toNat:Int)==123)=false:=by rw[e];rfl
   have h4:((((bs L)[(0:Nat)]'h0).toNat:Int)==40)=true:=by rw[e];rfl
   clear e
   simp only[T.rk]at hn
   have hsz:(bs L).size≤1000000:=by rw[aH];exact hl
   have HL:=ah hL
   have HLEN:Hid ((bs L).size=(T.nI ts).length+2+rest.length):=ah (by rw[aH,←hL];simp;omega)
   clear hL hs
   go_enter func151,ntmps151
   go_wp2
   go_loop [3] (fun i=>∃k:Nat,k≤ts.length∧i=.int .i64 ((1+(T.nI (ts.take k)).length:Nat):Int)) (fun i=>(bs L).size-(intOf i).toNat)
   case atStart=>exact⟨0,jf _,rfl⟩
   case round =>
    obtain⟨k,hk,rfl⟩:=hrel
    generalize hi:1+(T.nI (ts.take k)).length=i
    by_cases hlt:k<ts.length
    ·have hat:=T.Uf ts k hlt
     obtain⟨c,r,hc,hne⟩:=T.Nl _ (T.vT ts hw.2 k hlt)
     have hdrop:L.drop i=(ts[k]).ty++(T.nI (ts.drop (k+1))++(41::rest)):=by
      rw[←HL.o,hat,←hi,Nat.add_comm 1,List.drop_succ_cons];simp
     have hbyte:L[i]?=some c:=by
      have:=List.getElem?_drop (xs:=L) (i:=i) (j:=0)
      rw[hdrop,hc]at this;simpa using this.symm
     have hilt:i<L.length:=by
      rcases Nat.lt_or_ge i L.length with h|h
      ·exact h
      ·rw[List.getElem?_eq_none h]at hbyte;cases hbyte
     have hi2:i<(bs L).size:=by rw[aH];exact hilt
     have hi3:i≤(bs L).size:=by omega
     have hd:decide ((i:Int)<((bs L).size:Int))=true:=by simp;omega
     have hb:((((bs L)[i]'hi2).toNat:Int)==41)=false:=by rw[byte_at L i c hi2 hbyte];exact tJ hne
     have hb':((((bs L)[i]'hi2).toNat:Int) != 41)=true:=by simp only[bne,hb];rfl
     have hx:=ah (kQ L i)
     have HD:=ah hdrop
     have hsum:i+(ts[k]).ty.length≤1000000:=by
      have:(L.drop i).length=L.length-i:=by simp
      rw[hdrop,dY]at this;omega
     have hle:((ts[k]).ty++(T.nI (ts.drop (k+1))++(41::rest))).length≤1000000:=by
      rw[←hdrop];simp;omega
     have HN:=ah (show 1+(T.nI (ts.take (k+1))).length=i+(ts[k]).ty.length by rw[T.Hg ts k hlt,dY];omega)
     have hrk:(ts[k]).rk≤n:=by have:=T.nH ts k hlt;omega
     have hpos:0<(ts[k]).ty.length:=by rw[hc];simp
     have hwk:=T.vT ts hw.2 k hlt
     clear hat hc hbyte hdrop hi hb
     go_wp2_with (go_at_call 151;rw[hx.o,HD.o];refine gU (ih _ hrk hwk _ _ hle) ?_)
     go_round
     case rel=>exact⟨k+1,by omega,by rw[HN.o];go_num⟩
     case measure=>simp[intOf];omega
    ·have hke:k=ts.length:=by omega
     have hi':i=1+(T.nI ts).length:=by rw[←hi,hke,List.take_length]
     have hbyte:L[i]?=some 41:=by
      rw[←HL.o,hi',Nat.add_comm 1];simp
     have hilt:i<L.length:=by
      rcases Nat.lt_or_ge i L.length with h|h
      ·exact h
      ·rw[List.getElem?_eq_none h]at hbyte;cases hbyte
     have hi2:i<(bs L).size:=by rw[aH];exact hilt
     have hi3:i≤(bs L).size:=by omega
     have hd:decide ((i:Int)<((bs L).size:Int))=true:=by simp;omega
     have hb:((((bs L)[i]'hi2).toNat:Int)==41)=true:=by rw[byte_at L i 41 hi2 hbyte];rfl
     have hb':((((bs L)[i]'hi2).toNat:Int) != 41)=false:=by simp only[bne,hb];rfl
     have HI:=ah hi'
     clear hi hi' hbyte hke
     go_wp2
     go_ret
     exact⟨by
      have:=HI.o
      simp[T.ty];omega,rfl⟩
theorem aiZ:(prog.info? 92).map (fun i=>(i.zero,i.size,i.bytes))=some (some (.string ⟨#[]⟩),1,16):=by kernel_rfl
theorem F9 (ts:List T) (hw:T.NV ts) (w:World) (hl:(T.str ts).ty.length≤1000000) :
  Calls prog 127 #[.string (bs (T.str ts).ty)] w fun e w'=>∃v,e=.returned v∧Kd.R Kd.string 92 w' w.heap.size (fun _=>True) v (ts.map fun t=>bs t.ty)∧Below w.heap.size w w':=by
 generalize hL:(T.str ts).ty=L at hl ⊢
 have hsz:(bs L).size≤1000000:=by rw[aH];exact hl
 have hL':40::(T.nI ts++[41])=L:=hL
 have HL:=ah hL'
 have HTL:=ah (show ∀ts:List T,T.NV ts→ts.length≤(T.nI ts).length from fun ts=>by
  induction ts with
  |nil=>intro _;simp
  |cons a l ih=>intro h;obtain⟨c,r,hc,_⟩:=T.Nl a h.1;have:=ih h.2;simp only[T.nI,d_,dY,hc]at *;omega)
 have HB:=aj.mk (jM w)
 clear hL hL'
 go_enter func127,ntmps127
 go_wp2
 go_loopw [3,4] (fun v3 v4 wr=>∃k:Nat,k≤ts.length∧v4=.int .i64 ((1+(T.nI (ts.take k)).length:Nat):Int)∧aj (Kd.R Kd.string 92 wr w.heap.size (fun _=>True) v3 ((ts.take k).map fun t=>bs t.ty))∧aj (Below w.heap.size w wr)) (fun _ v4 _=>(bs L).size-(intOf v4).toNat)
 case atStart=>exact⟨0,jf _,rfl,⟨Kd.aad _ _ _ _ _⟩,HB⟩
 case round =>
  clear HB
  obtain⟨k,hk,rfl,HR,HB⟩:=hrel
  generalize hi:1+(T.nI (ts.take k)).length=i
  by_cases hlt:k<ts.length
  ·have hat:=T.Uf ts k hlt
   obtain⟨c,r,hc,hne⟩:=T.Nl _ (T.vT ts hw k hlt)
   have hdrop:L.drop i=(ts[k]).ty++(T.nI (ts.drop (k+1))++[41]):=by
    rw[←HL.o,hat,←hi,Nat.add_comm 1,List.drop_succ_cons];simp
   have hbyte:L[i]?=some c:=by
    have:=List.getElem?_drop (xs:=L) (i:=i) (j:=0)
    rw[hdrop,hc]at this;simpa using this.symm
   have hilt:i<L.length:=by
    rcases Nat.lt_or_ge i L.length with h|h
    ·exact h
    ·rw[List.getElem?_eq_none h]at hbyte;cases hbyte
   have hi2:i<(bs L).size:=by rw[aH];exact hilt
   have hi3:i≤(bs L).size:=by omega
   have hd:decide ((i:Int)<((bs L).size:Int))=true:=by simp;omega
   have hb:((((bs L)[i]'hi2).toNat:Int)==41)=false:=by rw[byte_at L i c hi2 hbyte];exact tJ hne
   have hb':((((bs L)[i]'hi2).toNat:Int) != 41)=true:=by simp only[bne,hb];rfl
   have hx:=ah (kQ L i)
   have HD:=ah hdrop
   have hlen2:i+(ts[k]).ty.length≤L.length:=by
    have:(L.drop i).length=L.length-i:=by simp
    rw[hdrop,dY]at this;omega
   have hsum:i+(ts[k]).ty.length≤1000000:=by omega
   have as4:i+(ts[k]).ty.length≤(bs L).size:=by rw[aH];exact hlen2
   have as5:i≤i+(ts[k]).ty.length:=by omega
   have hle:((ts[k]).ty++(T.nI (ts.drop (k+1))++[41])).length≤1000000:=by
    rw[←hdrop];simp;omega
   have HN:=ah (show 1+(T.nI (ts.take (k+1))).length=i+(ts[k]).ty.length by rw[T.Hg ts k hlt,dY];omega)
   have HX:=ah (show(bs L).extract i (i+(ts[k]).ty.length)=bs (ts[k]).ty by
    rw[gY,hdrop];simp)
   have HM:=ah (show(ts.take (k+1)).map (fun t=>bs t.ty)=(ts.take k).map (fun t=>bs t.ty)++[bs (ts[k]).ty] by
    rw[lu hlt,List.map_append];rfl)
   have hpos:0<(ts[k]).ty.length:=by rw[hc];simp
   have hwk:=T.vT ts hw k hlt
   have HTK:=ah (show(List.map (fun t=>bs t.ty) (List.take k ts)).length≤1000000 by
    have h1:=HTL.o ts hw
    have h2:=congrArg List.length HL.o
    simp only[d_,dY,kW]at h2
    simp only[List.length_map,List.length_take];omega)
   clear hat hc hbyte hdrop hi hb
   have hxe:(bs L).extract i (i+(ts[k]).ty.length)=bs (ts[k]).ty:=HX.o
   go_wp2_with (first|(go_at_call 151;rw[hx.o,HD.o];refine gU (aeD _ _ bW hwk _ _ hle) ?_)|((with_reducible refine jH (b:=.append) (xs:=#[.tmp 20,.tmp 27]) rfl ?_);at_builtin;refine Kd.zF Kd.string (w0:=w) w.heap.size rfl (.tmp 20) (.tmp 27) 201 92 (.string ⟨#[]⟩) 16 rfl underlying201 aiZ rfl (by decide) (by omega) u3 ((ts.take k).map fun t=>bs t.ty) (bs (ts[k]).ty) [.string (bs (ts[k]).ty)] (fun _=>True) (fun _=>False) rfl rfl ?aP (fun _ hk=>hk.elim) ?aF ?aO ?aB ?aS ?aL ?_;(case aP=>exact rfl);(case aB=>exact HB.o);(case aF=>exact(fun _ _=>trivial));(case aO=>exact HR.o);(case aS=>exact HB.o.size);(case aL=>have:=HTK.o;omega);intro v1 w1 ho hb2 hg hat;have HO:=aj.mk ho;have HB2:=aj.mk hb2;clear ho hb2 hg hat))
   go_roundw
   case rel=>exact⟨k+1,by omega,by rw[HN.o];go_num,⟨by rw[HM.o];exact HO.o⟩,HB2⟩
   case measure=>simp[intOf];omega
  ·have hke:k=ts.length:=by omega
   have hi':i=1+(T.nI ts).length:=by rw[←hi,hke,List.take_length]
   have hbyte:L[i]?=some 41:=by
    rw[←HL.o,hi',Nat.add_comm 1];simp
   have hilt:i<L.length:=by
    rcases Nat.lt_or_ge i L.length with h|h
    ·exact h
    ·rw[List.getElem?_eq_none h]at hbyte;cases hbyte
   have hi2:i<(bs L).size:=by rw[aH];exact hilt
   have hi3:i≤(bs L).size:=by omega
   have hd:decide ((i:Int)<((bs L).size:Int))=true:=by simp;omega
   have hb:((((bs L)[i]'hi2).toNat:Int)==41)=true:=by rw[byte_at L i 41 hi2 hbyte];rfl
   have hb':((((bs L)[i]'hi2).toNat:Int) != 41)=false:=by simp only[bne,hb];rfl
   have JZ:=ah hke
   clear hi hi' hbyte hke
   go_wp2
   go_ret
   exact⟨_,rfl,by have:=HR.o;rw[JZ.o,List.take_length]at this;exact this,HB.o⟩
theorem Og {w:World} {base:Nat} {ok:Nat→Prop} {v:Value} {xs:List bG} (h:Kd.R Kd.string 92 w base ok v xs) (i:Nat) (hi:i<xs.length) :
  ∃g c,v=.slice (some ⟨g,0,none⟩) xs.length c∧xs.length≤c∧w.cell? ⟨g,i,none⟩=some (.string xs[i]):=by
 obtain⟨inner,ho⟩:=Kd.Uz h
 obtain⟨A,c,rfl,hc,hr⟩:=Kd.rX h
 obtain⟨ad,cs,e,_,hK,hcell⟩:=Kd.DJ hr (ByteArray.empty) (i:Int) (by omega) (by omega)
 rcases ho.2 with ⟨hn,h0⟩|⟨g,cap,cur,hv,_⟩
 ·omega
 ·injection hv with hv _ _
  subst hv
  injection e with e
  subst e
  have hK':cs=[.string (xs.getD i ByteArray.empty)]:=hK
  have:=hcell 0 _ (by rw[hK'];rfl)
  refine⟨g,c,rfl,hc,?_⟩
  have e2:((i:Int).toNat*Kd.string.sz+0)=i:=by simp[Kd.string,Kd.scalar]
  rw[e2,add_plain,wC,gQ hi]at this
  simpa using this
theorem Bo (ts:List T) (hw:T.NV ts) (w:World) (hl:(T.str ts).ty.length≤1000000) :
  fC 98 #[.string (bs (T.str ts).ty)] w (.int .i64 (ts.length:Nat)):=by
 go_enter func98,ntmps98
 go_wp2_with (go_at_call 127;refine(F9 ts hw _ hl).mono ?_;rintro e w' ⟨v,rfl,hr,hb⟩;obtain⟨A,c,hv,hc,_⟩:=Kd.rX hr;rw[List.length_map]at hv hc;subst hv;have HB:=aj.mk hb;clear hr hb)
 go_ret
 exact⟨rfl,HB.o⟩
theorem akW {W w1:World} (hb:Below W.heap.size W w1):(∀b o,b<W.heap.size→w1.cell? ⟨b,o,none⟩=W.cell? ⟨b,o,none⟩)∧(∀b o,b<W.heap.size→w1.frozen? ⟨b,o,none⟩=W.frozen? ⟨b,o,none⟩) :=
 ⟨fun b o h=>hb.cell (p:=⟨b,o,none⟩) h,fun b o h=>hb.frozen (p:=⟨b,o,none⟩) h⟩
theorem Jh (ts:List T) (hw:T.NV ts) (i:Nat) (hi:i<ts.length) (w:World) (hl:(T.str ts).ty.length≤1000000) :
  fC 99 #[.string (bs (T.str ts).ty),.int .i64 i] w (.agg #[.string (bs (ts[i]).ty),.string ⟨#[]⟩,.string ⟨#[]⟩]):=by
 go_enter func99,ntmps99
 go_wp2_with (go_at_call 127;refine(F9 ts hw _ hl).mono ?_;rintro e w' ⟨v,rfl,hr,hb⟩;obtain⟨g,c,hv,hc,hcell⟩:=Og hr i (by simpa using hi);rw[List.length_map]at hv hc;rw[List.getElem_map]at hcell;subst hv;obtain⟨hcc,hff⟩:=akW hb;have hsz:=hb.size;have HB:=aj.mk hb;clear hr hb)
 refine iW (v:=.agg #[.string (bs (ts[i]).ty),.string ⟨#[]⟩,.string ⟨#[]⟩]) (by simp[results,results99,go_sem,hcc,hff]) rfl ⟨rfl,?_⟩
 exact((((gG _).trans (HB.o.mono (by simp))).setCell (by simp) _).setCell (by simp) _).setCell (by simp) _
theorem aci (r:Nat) (s:bG) (u:FrameMode) (w:World) (hr:w.cell? ⟨r,0,none⟩=some (.string s)) (hs:s.size≤255) :
  CallsD prog 97 #[.pointer (some ⟨r,0,none⟩)] u w fun e u' w'=>u'=u∧(e=.returned (.tuple #[])∧w'=w):=by
 have hd:decide (255<s.size)=false:=by simp;omega
 go_enter_d func97,ntmps97
 go_wp2
 go_end0
 exact⟨rfl,rfl⟩
theorem iQ (tmps:Array Value) (r:Nat) (s:bG) (R:Ending→World→Prop) (W:World) (h4:tmps.getD 4 undef=.pointer (some ⟨r,0,none⟩)) (hc:W.cell? ⟨r,0,none⟩=some (.string s)) (hs:s.size≤255)
  (hR:R (.returned (.string s)) W) :
  bodyPostD prog f66 R .ret {tmps:=tmps,defers:=[{target:=Target.fn (Fn.func 97) #[.pointer (some ⟨r,0,none⟩)],args:=#[]}]} W:=by
 refine leaves_cons (f:=97) (args:=#[.pointer (some ⟨r,0,none⟩)]) (by simp) (by simp[go_sem]) ?_
 refine(aci r s _ W hc hs).mono ?_
 rintro e u' w'' ⟨rfl,rfl,rfl⟩
 have h4':tmps[4]?.getD undef=.pointer (some ⟨r,0,none⟩):=by simpa using h4
 simp[Leaves,settle,results,results66,go_sem,h4',hc,hR]
theorem P8 (c:UInt8) (hc:dM c) (x y z:Int) (b:Nat) (w:World) (hb:w.heap[b]?=some (.cells #[.int .i64 x,.int .i64 y,.int .i64 z] 126 (0,0))) (hx:x≤32) (hy:y≤32) (hz:z≤32) :
  fC 66 #[.string (bs [c]),.pointer (some ⟨b,0,none⟩)] w (.string (bs [c])):=by
 have hmf:∀(fn:Fn) (first cap:Array Value) (w:World),(Instr.makeFunc fn first cap).run prog w=.ok (.func fn first cap) w:=fun _ _ _ _=>rfl
 have hbl:=lt_of_block hb
 have hb2:=ah (show ∀o,(w.alloc o).heap[b]?=some (.cells #[.int .i64 x,.int .i64 y,.int .i64 z] 126 (0,0))from fun o=>by rw[kN _ _ _ hbl];exact hb)
 have ht:∀c:UInt8,(bs [c]).toList=[c]:=fun c=>bH _
 rcases hc with rfl|rfl|rfl|rfl|rfl|rfl|rfl|rfl|rfl|rfl|rfl|rfl|rfl|rfl
 ·go_enter_defers func66,ntmps66
  go_wp2_with ((first|(go_at_call 96;refine(dw b x y z _ (hb2.o _) hx hy hz).mono ?_)|(go_at_call 68;refine(dQ _ [] 7 rfl _).mono ?_));rintro e w' ⟨rfl,rfl⟩)
  exact iQ _ w.heap.size (bs [121]) _ _ rfl (by simp[bs]) (by simp[aH]) ⟨rfl,gG _⟩
 ·go_enter_defers func66,ntmps66
  go_wp2_with ((first|(go_at_call 96;refine(dw b x y z _ (hb2.o _) hx hy hz).mono ?_)|(go_at_call 68;refine(dQ _ [] 1 rfl _).mono ?_));rintro e w' ⟨rfl,rfl⟩)
  exact iQ _ w.heap.size (bs [98]) _ _ rfl (by simp[bs]) (by simp[aH]) ⟨rfl,gG _⟩
 ·go_enter_defers func66,ntmps66
  go_wp2_with ((first|(go_at_call 96;refine(dw b x y z _ (hb2.o _) hx hy hz).mono ?_)|(go_at_call 68;refine(dQ _ [] 3 rfl _).mono ?_));rintro e w' ⟨rfl,rfl⟩)
  exact iQ _ w.heap.size (bs [110]) _ _ rfl (by simp[bs]) (by simp[aH]) ⟨rfl,gG _⟩
 ·go_enter_defers func66,ntmps66
  go_wp2_with ((first|(go_at_call 96;refine(dw b x y z _ (hb2.o _) hx hy hz).mono ?_)|(go_at_call 68;refine(dQ _ [] 8 rfl _).mono ?_));rintro e w' ⟨rfl,rfl⟩)
  exact iQ _ w.heap.size (bs [113]) _ _ rfl (by simp[bs]) (by simp[aH]) ⟨rfl,gG _⟩
 ·go_enter_defers func66,ntmps66
  go_wp2_with ((first|(go_at_call 96;refine(dw b x y z _ (hb2.o _) hx hy hz).mono ?_)|(go_at_call 68;refine(dQ _ [] 4 rfl _).mono ?_));rintro e w' ⟨rfl,rfl⟩)
  exact iQ _ w.heap.size (bs [105]) _ _ rfl (by simp[bs]) (by simp[aH]) ⟨rfl,gG _⟩
 ·go_enter_defers func66,ntmps66
  go_wp2_with ((first|(go_at_call 96;refine(dw b x y z _ (hb2.o _) hx hy hz).mono ?_)|(go_at_call 68;refine(dQ _ [] 9 rfl _).mono ?_));rintro e w' ⟨rfl,rfl⟩)
  exact iQ _ w.heap.size (bs [117]) _ _ rfl (by simp[bs]) (by simp[aH]) ⟨rfl,gG _⟩
 ·go_enter_defers func66,ntmps66
  go_wp2_with ((first|(go_at_call 96;refine(dw b x y z _ (hb2.o _) hx hy hz).mono ?_)|(go_at_call 68;refine(dQ _ [] 5 rfl _).mono ?_));rintro e w' ⟨rfl,rfl⟩)
  exact iQ _ w.heap.size (bs [120]) _ _ rfl (by simp[bs]) (by simp[aH]) ⟨rfl,gG _⟩
 ·go_enter_defers func66,ntmps66
  go_wp2_with ((first|(go_at_call 96;refine(dw b x y z _ (hb2.o _) hx hy hz).mono ?_)|(go_at_call 68;refine(dQ _ [] 10 rfl _).mono ?_));rintro e w' ⟨rfl,rfl⟩)
  exact iQ _ w.heap.size (bs [116]) _ _ rfl (by simp[bs]) (by simp[aH]) ⟨rfl,gG _⟩
 ·go_enter_defers func66,ntmps66
  go_wp2_with ((first|(go_at_call 96;refine(dw b x y z _ (hb2.o _) hx hy hz).mono ?_)|(go_at_call 68;refine(dQ _ [] 11 rfl _).mono ?_));rintro e w' ⟨rfl,rfl⟩)
  exact iQ _ w.heap.size (bs [100]) _ _ rfl (by simp[bs]) (by simp[aH]) ⟨rfl,gG _⟩
 ·go_enter_defers func66,ntmps66
  go_wp2_with ((first|(go_at_call 96;refine(dw b x y z _ (hb2.o _) hx hy hz).mono ?_)|(go_at_call 68;refine(dQ _ [] 17 rfl _).mono ?_));rintro e w' ⟨rfl,rfl⟩)
  exact iQ _ w.heap.size (bs [115]) _ _ rfl (by simp[bs]) (by simp[aH]) ⟨rfl,gG _⟩
 ·go_enter_defers func66,ntmps66
  go_wp2_with ((first|(go_at_call 96;refine(dw b x y z _ (hb2.o _) hx hy hz).mono ?_)|(go_at_call 68;refine(dQ _ [] 18 rfl _).mono ?_));rintro e w' ⟨rfl,rfl⟩)
  exact iQ _ w.heap.size (bs [103]) _ _ rfl (by simp[bs]) (by simp[aH]) ⟨rfl,gG _⟩
 ·go_enter_defers func66,ntmps66
  go_wp2_with ((first|(go_at_call 96;refine(dw b x y z _ (hb2.o _) hx hy hz).mono ?_)|(go_at_call 68;refine(dQ _ [] 17 rfl _).mono ?_));rintro e w' ⟨rfl,rfl⟩)
  exact iQ _ w.heap.size (bs [111]) _ _ rfl (by simp[bs]) (by simp[aH]) ⟨rfl,gG _⟩
 ·go_enter_defers func66,ntmps66
  go_wp2_with ((first|(go_at_call 96;refine(dw b x y z _ (hb2.o _) hx hy hz).mono ?_)|(go_at_call 68;refine(dQ _ [] 18 rfl _).mono ?_));rintro e w' ⟨rfl,rfl⟩)
  exact iQ _ w.heap.size (bs [118]) _ _ rfl (by simp[bs]) (by simp[aH]) ⟨rfl,gG _⟩
 ·go_enter_defers func66,ntmps66
  go_wp2_with ((first|(go_at_call 96;refine(dw b x y z _ (hb2.o _) hx hy hz).mono ?_)|(go_at_call 68;refine(dQ _ [] 9 rfl _).mono ?_));rintro e w' ⟨rfl,rfl⟩)
  exact iQ _ w.heap.size (bs [104]) _ _ rfl (by simp[bs]) (by simp[aH]) ⟨rfl,gG _⟩
theorem aV (W:World) (o:Obj) (k:Nat) (h:k=W.heap.size):(W.alloc o).heap[k]?=some o:=by
 subst h;exact heap_alloc_new W o
theorem oD (W:World) (o:Obj) (k:Nat) (h:k=W.heap.size):(W.alloc o).drew.heap[k]?=some o:=aV W o k h
theorem agv {w:World} {b:Nat} {o:Obj} (h:∀o',(w.alloc o').heap[b]?=some o) (hb:b<w.heap.size) (o1 o2:Obj):((w.alloc o1).alloc o2).heap[b]?=some o:=by
 rw[kN _ _ _ (by simp;omega)];exact h o1
theorem agk (t:T) (x y z:Int) (b:Nat) (w:World) (hb:w.heap[b]?=some (.cells #[.int .i64 x,.int .i64 y,.int .i64 z] 126 (0,0))) (hx:x≤32) (hy:y≤32) (hz:z≤32) (hx0:0≤x)
  (hl:t.sig.length≤254)
  (ih:∀(b':Nat) (w':World),w'.heap[b']?=some (.cells #[.int .i64 (x+1),.int .i64 y,.int .i64 z] 126 (0,0)) →
    Calls prog 66 #[.string (bs t.ty),.pointer (some ⟨b',0,none⟩)] w' fun e w''=>e=.returned (.string (bs t.sig))∧Below w'.heap.size w' w'') :
  fC 66 #[.string (bs (91::t.ty)),.pointer (some ⟨b,0,none⟩)] w (.string (bs (97::t.sig))):=by
 have hmf:∀(fn:Fn) (first cap:Array Value) (w:World),(Instr.makeFunc fn first cap).run prog w=.ok (.func fn first cap) w:=fun _ _ _ _=>rfl
 have hbl:=lt_of_block hb
 have hb2:=ah (show ∀o,(w.alloc o).heap[b]?=some (.cells #[.int .i64 x,.int .i64 y,.int .i64 z] 126 (0,0))from fun o=>by rw[kN _ _ _ hbl];exact hb)
 have IH:=ah ih
 have H:=fun w=>oZ w ⟨#[97]⟩ (bs t.sig) (by rw[aH];simp[ByteArray.size];omega)
 go_enter_defers func66,ntmps66
 go_wp2_with ((first|(go_at_call 96;refine(dw b x y z _ (hb2.o _) hx hy hz).mono ?_)|(go_at_call 68;refine(dQ _ _ 16 rfl _).mono ?_));rintro e w' ⟨rfl,rfl⟩)
 have hne1:¬b=w.heap.size:=by omega
 have hne2:¬w.heap.size=b:=by omega
 have c0:=au (hb2.o (.cells #[.string ⟨#[]⟩] 9)) 0 (v:=.int .i64 x) rfl
 have c1:=au (hb2.o (.cells #[.string ⟨#[]⟩] 9)) 1 (v:=.int .i64 y) rfl
 have c2:=au (hb2.o (.cells #[.string ⟨#[]⟩] 9)) 2 (v:=.int .i64 z) rfl
 go_region_held3 (fun w'=>w'.cell? ⟨b,0,none⟩=some (.int .i64 x)∧w'.cell? ⟨b,1,none⟩=some (.int .i64 y)∧w'.cell? ⟨b,2,none⟩=some (.int .i64 z)) (go_keep)
  (first|(go_at_call 70;refine gU (xG _ _) ?_)|(go_at_call 102;refine gU (nN x y z _ hx0 (by omega)) ?_)|(go_at_call 66;refine(IH.o _ _ (oD _ _ _ ?_)).mono ?_;(simp);rintro e w' ⟨rfl,hbw⟩;have kb:w'.heap[b]?=some (.cells #[.int .i64 x,.int .i64 y,.int .i64 z] 126 (0,0)):=(hbw.block b (by simp;omega)).trans (agv hb2.o hbl _ _);have k0:=au kb 0 (v:=.int .i64 x) rfl;have k1:=au kb 1 (v:=.int .i64 y) rfl;have k2:=au kb 2 (v:=.int .i64 z) rfl;have kr:w'.cell? ⟨w.heap.size,0,none⟩=some (.string ⟨#[]⟩):=(hbw.cell (p:=⟨w.heap.size,0,none⟩) (by first|(simp;done)|(simp;omega))).trans (by simp[go_sem]);have kf:w'.frozen? ⟨w.heap.size,0,none⟩=false:=(hbw.frozen (p:=⟨w.heap.size,0,none⟩) (by first|(simp;done)|(simp;omega))).trans (by simp[go_sem]);have qR:=aj.mk hbw;clear hbw kb))
 go_wp2
 refine iQ _ w.heap.size (⟨#[97]⟩++bs t.sig) _ _ rfl ?_ ?_ ⟨?_,?_⟩
 ·exact World.cell?_setCell_same _ _ _ kr
 ·rw[gK,aH];simp[ByteArray.size];omega
 ·rw[show (⟨#[97]⟩:bG)=bs [97]from rfl,dh];rfl
 ·have hB:=qR.o.mono (B':=w.heap.size) (by simp;omega)
  exact(((gG _).alloc (by simp) _).drew.trans hB).setCell (by simp) _
theorem aQ {W:World} {b:Nat} {o:Obj} (h:W.heap[b]?=some o) (o1:Obj):(W.alloc o1).heap[b]?=some o:=by
 rw[kN _ _ _ (lt_of_block h)];exact h
section
theorem Yz {w w1:World} {b:Nat} {o0 o1 o2 B:Obj} (KB:(w.alloc o0).heap[b]?=some B) (hne:¬b=w.heap.size) (hbw:Below (((w.alloc o0).alloc o1).alloc o2).drew.heap.size (((w.alloc o0).alloc o1).alloc o2).drew w1) :
  w1.heap[b]?=some B∧w1.heap[w.heap.size]?=some o0∧Below w.heap.size w w1∧b<w1.heap.size∧w.heap.size<w1.heap.size:=by
 have hl:=lt_of_block KB
 have hs:=hbw.size
 simp at hl hs
 refine⟨(hbw.block b (by simp;omega)).trans (aQ (aQ KB _) _),(hbw.block w.heap.size (by simp;omega)).trans (aQ (aQ (aV w o0 _ rfl) _) _),?_,by omega,by omega⟩
 exact((((gG _).alloc (by simp) _).alloc (by simp;omega) _).drew).trans (hbw.mono (by simp;omega))
theorem aI {w:World} {b:Nat} {c:Array Value} {e:TypeId} (h:w.heap[b]?=some (.cells c e (0,0))) (i:Nat):w.frozen? ⟨b,i,none⟩=false:=by
 simp[World.frozen?,h]
theorem RI {w w1 w2:World} {b:Nat} {B o0 o1 o2:Obj} (KB:w1.heap[b]?=some B) (KR:w1.heap[w.heap.size]?=some o0) (HB:Below w.heap.size w w1) (hbw:Below ((w1.alloc o1).alloc o2).heap.size ((w1.alloc o1).alloc o2) w2) :
  w2.heap[b]?=some B∧w2.heap[w.heap.size]?=some o0∧Below w.heap.size w w2:=by
 have hl:=lt_of_block KR
 have hl2:=lt_of_block KB
 have hs:=hbw.size
 simp at hs
 refine⟨(hbw.block b (by simp;omega)).trans (aQ (aQ KB _) _),(hbw.block w.heap.size (by simp;omega)).trans (aQ (aQ KR _) _),?_⟩
 exact((HB.alloc (by omega) _).alloc (by simp;omega) _).trans (hbw.mono (by simp;omega))
section
variable {P:Program} {md:Region.Mode} {ops:Array Oper} {Q:Exit→Act→World→Prop} {S:World→Prop}
theorem aum {fuel:Nat} {listed:Array Bool} {a:Act} {w:World} (i:Nat) {o:Oper} (ho:ops.toList[i]?=some o) (hr:Region.ready md ops listed=[i])
  (h:∀K':Act→World→Prop,Shut (∀a w,S w→(S w→wpAnyH P md ops Q S fuel (listed.setIfInBounds i true) a w)→K' a w)→if Region.wanted o (yielded ops a.tmps)=true then Oper.wp P o a w K' Q else K' (a.put o.dst undef) w) :
  wpAnyH P md ops Q S (fuel+1) listed a w :=
 wpAnyH_ready hr (by simp) (AllReadyH.cons (by rw[←qV];exact ho) h AllReadyH.nil)
theorem atc {fuel:Nat} {listed:Array Bool} {a:Act} {w:World} (i:Nat) {oi:Oper} {v:Value} (ho:ops.toList[i]?=some oi)
  (hs:Region.noSelect ops=true) (hf:Region.free md ops listed i=true) (hr:(Region.ready md ops listed).contains i=true)
  (hQ:∀c a w,Q (.panic c) (a.put oi.dst v) w→Q (.panic c) a w) (hy:YieldsIf P ops S oi v a) (hS:S w)
  (h:wpAnyH P md ops Q S fuel (listed.setIfInBounds i true) (a.put oi.dst v) w):wpAnyH P md ops Q S (fuel+1) listed a w :=
 wpAnyH_take (by rw[←qV];exact ho) hs hf hr hQ hy hS h
end
theorem acQ (k:UInt8) (hk:kJ k) (t:T) (x y z:Int) (b:Nat) (w:World) (hb:w.heap[b]?=some (.cells #[.int .i64 x,.int .i64 y,.int .i64 z] 126 (0,0))) (hx:x+1≤32) (hy:y≤32) (hz:z+1≤32) (hx0:0≤x) (hz0:0≤z)
  (hl:t.sig.length≤251)
  (ih:∀(b':Nat) (w':World),w'.heap[b']?=some (.cells #[.int .i64 (x+1),.int .i64 y,.int .i64 (z+1)] 126 (0,0)) →
    Calls prog 66 #[.string (bs t.ty),.pointer (some ⟨b',0,none⟩)] w' fun e w''=>e=.returned (.string (bs t.sig))∧Below w'.heap.size w' w'') :
  fC 66 #[.string (bs (123::k::t.ty)),.pointer (some ⟨b,0,none⟩)] w (.string (bs (97::123::k::(t.sig++[125])))):=by
 have hmf:∀(fn:Fn) (first cap:Array Value) (w:World),(Instr.makeFunc fn first cap).run prog w=.ok (.func fn first cap) w:=fun _ _ _ _=>rfl
 have hbl:=lt_of_block hb
 have pI:=aj.mk (aQ hb (.cells #[.string ⟨#[]⟩] 9))
 have IH:=ah ih
 have IK:=ah (fun (b':Nat) (w':World) (h:w'.heap[b']?=some (.cells #[.int .i64 (x+1),.int .i64 y,.int .i64 (z+1)] 126 (0,0)))=>P8 k hk.base (x+1) y (z+1) b' w' h hx hy hz)
 have H:=fun w=>oZ w ⟨#[97,123]⟩ (bs [k]) (by rw[aH];simp[ByteArray.size])
 have H2:=fun w=>oZ w (⟨#[97,123]⟩++bs [k]) (bs t.sig) (by rw[gK,aH,aH];simp[ByteArray.size];omega)
 have H3:=fun w=>oZ w (⟨#[97,123]⟩++bs [k]++bs t.sig) ⟨#[125]⟩ (by rw[gK,gK,aH,aH];simp[ByteArray.size];omega)
 have d0:=au hb 0 (v:=.int .i64 x) rfl
 have d1:=au hb 1 (v:=.int .i64 y) rfl
 have d2:=au hb 2 (v:=.int .i64 z) rfl
 go_enter_defers func66,ntmps66
 go_wp2_with ((first|(go_at_call 96;refine(dw b x y z _ pI.o (by omega) hy (by omega)).mono ?_)|(go_at_call 68;refine(dQ _ _ 14 rfl _).mono ?_)|(go_at_call 69;refine(Bd _ _ _).mono ?_)|(go_at_call 103;refine(Pn k _ hk).mono ?_));rintro e w' ⟨rfl,rfl⟩)
 have hne1:¬b=w.heap.size:=by omega
 have hne2:¬w.heap.size=b:=by omega
 have c0:=au pI.o 0 (v:=.int .i64 x) rfl
 have c1:=au pI.o 1 (v:=.int .i64 y) rfl
 have c2:=au pI.o 2 (v:=.int .i64 z) rfl
 have NK:=ah (fun (o1 o2:Obj)=>aV w o1 w.heap.size rfl)
 have aqO:¬b=w.heap.size+1:=by omega
 have aqP:¬w.heap.size+1=b:=by omega
 have hne5:¬b=w.heap.size+1+1:=by omega
 have atO:¬w.heap.size+1+1=b:=by omega
 have hlt1:b<w.heap.size+1:=by omega
 have hlt2:b<w.heap.size+1+1:=by omega
 refine wp_region_noPanic ?_
 refine H_ ((fun w'=>w'.cell? ⟨b,0,none⟩=some (.int .i64 x)∧w'.cell? ⟨b,1,none⟩=some (.int .i64 y)∧w'.cell? ⟨b,2,none⟩=some (.int .i64 z))) fun hHeld=>?_
 refine dL 0 ?_
 refine dL 2 ?_
 refine dL 3 ?_
 refine dL 4 ?_
 refine dL 11 ?_
 refine dL 13 ?_
 refine dL 14 ?_
 refine dL 15 ?_
 refine rn 1 fun K hK=>?_
 go_simp
 refine gU (Bd _ _ _) ?_
 (try go_wp2_with fail)
 refine ji hK ?_;clear hK K hHeld;intro hHeld
 refine rn 5 fun K hK=>?_
 go_simp
 refine gU (nN x y z _ hx0 (by omega)) ?_
 (try go_wp2_with fail)
 refine ji hK ?_;clear hK K hHeld;intro hHeld
 refine dL 6 ?_
 refine rn 7 fun K hK=>?_
 go_simp
 refine ji hK ?_;clear hK K hHeld;intro hHeld
 refine rn 8 fun K hK=>?_
 go_simp
 refine gU (rZ (x+1) y z _ hz0 (by omega)) ?_
 (try go_wp2_with fail)
 refine ji hK ?_;clear hK K hHeld;intro hHeld
 refine rn 9 fun K hK=>?_
 go_simp
 (with_reducible refine(IK.o _ _ (oD _ _ _ ?_)).mono ?_);(simp);rintro e w1 ⟨rfl,hbw⟩;have ⟨kb,kr,kB,g0,g3⟩:=Yz pI.o hne1 hbw;have k0:=au kb 0 (v:=.int .i64 x) rfl;have k1:=au kb 1 (v:=.int .i64 y) rfl;have k2:=au kb 2 (v:=.int .i64 z) rfl;have QG:=aj.mk kr;have KBB:=aj.mk kb;have J7:=aj.mk kB;have g1:¬b=w1.heap.size:=Nat.ne_of_lt g0;have g2:¬w1.heap.size=b:=Ne.symm g1;have g4:b<w1.heap.size+1:=Nat.lt_succ_of_lt g0;clear hbw kb kr kB
 (try go_wp2_with fail)
 refine ji hK ?_;clear hK K hHeld;intro hHeld
 refine dL 10 ?_
 refine rn 12 fun K hK=>?_
 go_simp
 refine gU (Jc _ _ _) ?_
 (try go_wp2_with fail)
 refine ji hK ?_;clear hK K hHeld;intro hHeld
 refine rn 16 fun K hK=>?_
 go_simp
 refine gU (nN x y z _ hx0 (by omega)) ?_
 (try go_wp2_with fail)
 refine ji hK ?_;clear hK K hHeld;intro hHeld
 refine dL 17 ?_
 refine rn 18 fun K hK=>?_
 go_simp
 refine ji hK ?_;clear hK K hHeld;intro hHeld
 refine rn 19 fun K hK=>?_
 go_simp
 refine gU (rZ (x+1) y z _ hz0 (by omega)) ?_
 (try go_wp2_with fail)
 refine ji hK ?_;clear hK K hHeld;intro hHeld
 refine rn 20 fun K hK=>?_
 go_simp
 (with_reducible refine(IH.o _ _ (aV _ _ _ ?_)).mono ?_);(simp);rintro e w2 ⟨rfl,hbw⟩;have ⟨kb,kr,kB⟩:=RI KBB.o QG.o J7.o hbw;have j0:=au kb 0 (v:=.int .i64 x) rfl;have j1:=au kb 1 (v:=.int .i64 y) rfl;have j2:=au kb 2 (v:=.int .i64 z) rfl;have k4:=au kr 0 (v:=.string ⟨#[]⟩) rfl;have k5:=aI kr 0;have Ic:=aj.mk kB;clear hbw kB kr kb
 (try go_wp2_with fail)
 refine ji hK ?_;clear hK K hHeld;intro hHeld
 refine dL 21 ?_
 refine dL 22 ?_
 refine rn 23 fun K hK=>?_
 go_simp
 refine ji hK ?_;clear hK K hHeld;intro hHeld
 refine lX ?_
 refine NoPanic.normal ?_
 go_wp2
 refine iQ _ w.heap.size (⟨#[97,123]⟩++bs [k]++bs t.sig++⟨#[125]⟩) _ _ rfl ?_ ?_ ⟨?_,?_⟩
 ·exact World.cell?_setCell_same _ _ _ k4
 ·rw[gK,gK,gK,aH,aH];simp[ByteArray.size];omega
 ·rw[show (⟨#[97,123]⟩:bG)=bs [97,123]from rfl,show(⟨#[125]⟩:bG)=bs [125]from rfl,dh,dh,dh];rfl
 ·exact Ic.o.setCell (by simp) _
end
theorem Qb (ts:List T):(T.str ts).ty=40::(T.nI ts++[41]):=rfl
theorem JH (t k:bG) (w:World):uQ 100 #[.string t,.string k] w (.string ⟨#[]⟩):=by
 go_enter func100,ntmps100
 go_wp2
 go_ret
 exact⟨rfl,rfl⟩
theorem Bc {w W w1:World} {k b r:Nat} {o B:Obj} (KR:W.heap[r]?=some o) (KB:W.heap[b]?=some B) (HB:Below k w W) (hk:k≤W.heap.size) (hb:Below W.heap.size W w1):w1.heap[r]?=some o∧w1.heap[b]?=some B∧Below k w w1 :=
 ⟨(hb.block r (lt_of_block KR)).trans KR,(hb.block b (lt_of_block KB)).trans KB,HB.trans (hb.mono hk)⟩
theorem Gw {w W:World} {k b r:Nat} {o B:Obj} (KR:W.heap[r]?=some o) (KB:W.heap[b]?=some B) (HB:Below k w W) (hk:k≤W.heap.size) (o1:Obj):(W.alloc o1).heap[r]?=some o∧(W.alloc o1).heap[b]?=some B∧Below k w (W.alloc o1) :=
 ⟨aQ KR o1,aQ KB o1,HB.alloc hk o1⟩
theorem T.Na:∀t:T,0<t.sig.length:=by intro t;cases t<;>simp[T.sig]
theorem T.G6:∀ts:List T,ts.length≤(T.sigs ts).length
 |[]=>bW
 |t::ts=>by have:=T.Na t;have:=T.G6 ts;simp only[T.sigs,d_,dY];omega
theorem T.Dv (ts:List T) (k:Nat):(T.sigs (ts.take k)).length≤(T.sigs ts).length:=by
 conv=>rhs;rw[←List.take_append_drop k ts,T.nP]
 simp
theorem agl (ts:List T) (hw:T.NV ts) (hne:ts≠[]) (x y z:Int) (b:Nat) (w:World) (hb:w.heap[b]?=some (.cells #[.int .i64 x,.int .i64 y,.int .i64 z] 126 (0,0))) (hx:x≤32) (hy:y≤32) (hz:z≤32) (hy0:0≤y)
  (hl:(T.str ts).sig.length≤255) (hty:(T.str ts).ty.length≤1000000)
  (ih:∀(i:Nat) (h:i<ts.length) (b':Nat) (w':World),w'.heap[b']?=some (.cells #[.int .i64 x,.int .i64 (y+1),.int .i64 z] 126 (0,0)) →
    Calls prog 66 #[.string (bs (ts[i]).ty),.pointer (some ⟨b',0,none⟩)] w' fun e w''=>e=.returned (.string (bs (ts[i]).sig))∧Below w'.heap.size w' w'') :
  fC 66 #[.string (bs (T.str ts).ty),.pointer (some ⟨b,0,none⟩)] w (.string (bs (T.str ts).sig)):=by
 have hmf:∀(fn:Fn) (first cap:Array Value) (w:World),(Instr.makeFunc fn first cap).run prog w=.ok (.func fn first cap) w:=fun _ _ _ _=>rfl
 have hfd:∀(a b c:Value) (w:World),(Instr.field 165 (.agg #[a,b,c]) 0).run prog w=.ok a w:=fun _ _ _ _=>rfl
 have hbl:=lt_of_block hb
 have pI:=aj.mk (aQ hb (.cells #[.string ⟨#[]⟩] 9))
 have IH:=ah ih
 have HNF:=ah (fun (w:World)=>Bo ts hw w hty)
 have HF:=ah (fun (i:Nat) (hi:i<ts.length) (w:World)=>Jh ts hw i hi w hty)
 have hk:kindOf (40:UInt8).toNat=18:=rfl
 have HS:=ah (show(T.str ts).sig=40::(T.sigs ts++[41])from rfl)
 have hsl:(T.sigs ts).length≤253:=by have:=hl;simp only[T.sig,d_,dY,kW]at this;omega
 have hv:((bs (T.str ts).ty).toList==[118])=false:=by rw[bH,Qb];simp
 have hg:((bs (T.str ts).ty).toList==[103])=false:=by rw[bH,Qb];simp
 have HK:=ah (fun (w:World)=>show uQ 68 #[.string (bs (T.str ts).ty)] w (.int .i64 18)from dQ 40 (T.nI ts++[41]) 18 rfl w)
 generalize (T.str ts).ty=L at *
 clear hb ih hl
 go_enter_defers func66,ntmps66
 go_wp2_with ((first|(go_at_call 96;refine(dw b x y z _ pI.o hx hy hz).mono ?_)|(go_at_call 68;refine(HK.o _).mono ?_));rintro e w' ⟨rfl,rfl⟩)
 have HB:=aj.mk ((jM w).alloc bW (.cells #[.string ⟨#[]⟩] 9))
 have KR:=aj.mk (aV w (.cells #[.string ⟨#[]⟩] 9) _ rfl)
 go_loopw [5,6] (fun v5 v6 wr=>∃k:Nat,k≤ts.length∧v6=.int .i64 (k:Nat)∧v5=.string (bs (T.sigs (ts.take k)))∧aj (wr.heap[w.heap.size]?=some (.cells #[.string ⟨#[]⟩] 9))∧aj (wr.heap[b]?=some (.cells #[.int .i64 x,.int .i64 y,.int .i64 z] 126 (0,0)))∧aj (Below w.heap.size w wr)) (fun _ v6 _=>ts.length-(intOf v6).toNat)
 case atStart=>exact⟨0,jf _,rfl,rfl,KR,pI,HB⟩
 case round =>
  clear HB KR pI
  obtain⟨k,hk,rfl,rfl,KR,KB,HB⟩:=hrel
  by_cases hlt:k<ts.length
  ·have hd:decide ((k:Int)<(ts.length:Int))=true:=by simp;omega
   have hk9:k+1≤1000:=by have:=T.G6 ts;omega
   go_wp2_with (first|(go_at_call 100;refine gU (JH _ _ _) ?_)|(go_at_call 98;refine(HNF.o _).mono ?_;rintro e w1 ⟨rfl,hb1⟩;have ⟨kr,kb,kB⟩:=Bc KR.o KB.o HB.o HB.o.size hb1;have QG:=aj.mk kr;have J7:=aj.mk kb;have HB1:=aj.mk kB;clear hb1 KR KB HB kr kb kB)|(go_at_call 99;refine(HF.o k hlt _).mono ?_;rintro e w2 ⟨rfl,hb1⟩;have ⟨kr,kb,kB⟩:=Bc QG.o J7.o HB1.o HB1.o.size hb1;have ⟨kr,kb,kB⟩:=Gw kr kb kB kB.size (.cells #[.string (bs (ts[k]).ty),.string ⟨#[]⟩,.string ⟨#[]⟩] 165);have KR2:=aj.mk kr;have Ic:=aj.mk kb;have HB2:=aj.mk kB;clear hb1 QG J7 HB1 kr kb kB))
   have c0:=au Ic.o 0 (v:=.int .i64 x) rfl
   have c1:=au Ic.o 1 (v:=.int .i64 y) rfl
   have c2:=au Ic.o 2 (v:=.int .i64 z) rfl
   have HN:=ah (T.Du ts k hlt)
   have H:=fun w=>oZ w (bs (T.sigs (ts.take k))) (bs (ts[k]).sig) (by rw[aH,aH];have h1:=T.Du ts k hlt;have h2:=T.Dv ts (k+1);rw[h1,dY]at h2;omega)
   refine wp_region_noPanic ?_
   refine H_ ((fun w'=>w'.cell? ⟨b,0,none⟩=some (.int .i64 x)∧w'.cell? ⟨b,1,none⟩=some (.int .i64 y)∧w'.cell? ⟨b,2,none⟩=some (.int .i64 z))) fun hHeld=>?_
   refine dL 0 ?_
   refine dL 1 ?_
   refine dL 2 ?_
   refine dL 5 ?_
   refine dL 6 ?_
   refine dL 7 ?_
   refine rn 3 fun K hK=>?_
   go_simp
   refine(HF.o k hlt _).mono ?_;rintro e w4 ⟨rfl,hb1⟩;have ⟨kr,kb,kB⟩:=Bc (W:=(World.drew _)) KR2.o Ic.o HB2.o.drew HB2.o.size hb1;have k0:=au kb 0 (v:=.int .i64 x) rfl;have k1:=au kb 1 (v:=.int .i64 y) rfl;have k2:=au kb 2 (v:=.int .i64 z) rfl;have hlt4:=lt_of_block kb;have KR4:=aj.mk kr;have KB4:=aj.mk kb;have HB4:=aj.mk kB;clear hb1 kr kb kB
   (try go_wp2_with fail)
   refine ji hK ?_;clear hK K hHeld;intro hHeld
   refine dL 4 ?_
   refine rn 8 fun K hK=>?_
   go_simp
   refine gU (zU x y z _ hy0 (by omega)) ?_
   (try go_wp2_with fail)
   refine ji hK ?_;clear hK K hHeld;intro hHeld
   refine rn 9 fun K hK=>?_
   go_simp
   refine(IH.o k hlt _ _ (aV _ _ _ rfl)).mono ?_;rintro e w6 ⟨rfl,hb1⟩;have ⟨kr,kb,kB⟩:=Gw KR4.o KB4.o HB4.o HB4.o.size (.cells #[.int .i64 x,.int .i64 (y+1),.int .i64 z] 126);have ⟨kr,kb,kB⟩:=Bc kr kb kB kB.size hb1;have j0:=au kb 0 (v:=.int .i64 x) rfl;have j1:=au kb 1 (v:=.int .i64 y) rfl;have j2:=au kb 2 (v:=.int .i64 z) rfl;have KR6:=aj.mk kr;have KB6:=aj.mk kb;have JW:=aj.mk kB;clear hb1 kr kb kB
   (try go_wp2_with fail)
   refine ji hK ?_;clear hK K hHeld;intro hHeld
   refine dL 10 ?_
   refine rn 11 fun K hK=>?_
   go_simp
   refine ji hK ?_;clear hK K hHeld;intro hHeld
   refine lX ?_
   refine NoPanic.normal ?_
   go_wp2
   go_roundw
   case rel=>exact⟨k+1,hlt,by go_num,by rw[HN.o,←dh],KR6,KB6,JW⟩
   case measure=>simp[intOf];omega
  ·have hke:k=ts.length:=by omega
   have hd:decide ((k:Int)<(ts.length:Int))=false:=by simp;omega
   have hpos:0<(T.sigs (ts.take k)).length:=by
    rw[hke,List.take_length];have:=T.G6 ts;have:0<ts.length:=List.length_pos_iff.2 hne;omega
   have hz1:(((bs (T.sigs (ts.take k))).size:Int)==0)=false:=by rw[aH,kS];omega
   have hle:=T.Dv ts k
   have H:=fun w=>oZ w ⟨#[40]⟩ (bs (T.sigs (ts.take k))) (by rw[aH];simp[ByteArray.size];omega)
   have H2:=fun w=>oZ w (⟨#[40]⟩++bs (T.sigs (ts.take k))) ⟨#[41]⟩ (by rw[gK,aH];simp[ByteArray.size];omega)
   have JZ:=ah hke
   clear hke
   go_wp2_with (go_at_call 98;refine(HNF.o _).mono ?_;rintro e w1 ⟨rfl,hb1⟩;have ⟨kr,kb,kB⟩:=Bc KR.o KB.o HB.o HB.o.size hb1;have QG:=aj.mk kr;have HB1:=aj.mk kB;have k4:=au kr 0 (v:=.string ⟨#[]⟩) rfl;have k5:=aI kr 0;clear hb1 KR KB HB kr kb kB)
   refine iQ _ w.heap.size (⟨#[40]⟩++bs (T.sigs (ts.take k))++⟨#[41]⟩) _ _ rfl ?_ ?_ ⟨?_,?_⟩
   ·exact World.cell?_setCell_same _ _ _ k4
   ·have:=hsl;rw[gK,gK,aH];have e1:(⟨#[40]⟩:bG).size=1:=rfl;have e2:(⟨#[41]⟩:bG).size=1:=rfl;omega
   ·rw[HS.o,JZ.o,List.take_length,show(⟨#[40]⟩:bG)=bs [40]from rfl,show(⟨#[41]⟩:bG)=bs [41]from rfl,dh,dh];rfl
   ·exact HB1.o.setCell (by simp) _
theorem T.uG (ts:List T) (i:Nat) (h:i<ts.length):(ts[i]).sig.length≤(T.sigs ts).length:=by
 have h1:=T.Du ts i h
 have h2:=T.Dv ts (i+1)
 rw[h1,dY]at h2;omega
theorem T.agA (ts:List T) (i:Nat) (h:i<ts.length):(ts[i]).ty.length≤(T.nI ts).length:=by
 rw[T.Uf ts i h];simp;omega
theorem agj (n:Nat):∀(t:T),t.rk≤n→t.wf→∀(x y z:Int),t.fits x y z→0≤x→0≤y→0≤z→t.sig.length≤255→t.ty.length≤1000000 →
  ∀(b:Nat) (w:World),w.heap[b]?=some (.cells #[.int .i64 x,.int .i64 y,.int .i64 z] 126 (0,0)) →
  fC 66 #[.string (bs t.ty),.pointer (some ⟨b,0,none⟩)] w (.string (bs t.sig)):=by
 induction n with
 |zero=>intro t hn;have:=T.wU t;omega
 |succ n ih =>
 intro t hn hw x y z hf hx hy hz hs ht b w hb
 obtain⟨fx,fy,fz⟩:=T.Gg t x y z hf
 match t,hn,hw,hf,hs,ht with
 | .base c,hn,hw,hf,hs,ht=>exact P8 c hw x y z b w hb fx fy fz
 | .arr t,hn,hw,hf,hs,ht =>
   simp only[T.rk]at hn
   simp only[T.sig,T.ty,d_]at hs ht
   exact agk t x y z b w hb fx fy fz hx (by omega) (fun b' w' h=>ih t (by omega) hw (x+1) y z hf.2 (by omega) hy hz (by omega) (by omega) b' w' h)
 | .dict k t,hn,hw,hf,hs,ht =>
   simp only[T.rk]at hn
   simp only[T.sig,T.ty,d_,dY,kW]at hs ht
   exact acQ k hw.1 t x y z b w hb hf.2.1.1 fy hf.2.1.2 hx hz (by omega) (fun b' w' h=>ih t (by omega) hw.2 (x+1) y (z+1) hf.2.2 (by omega) hy (by omega) (by omega) (by omega) b' w' h)
 | .str ts,hn,hw,hf,hs,ht =>
   simp only[T.rk]at hn
   refine agl ts hw.2 hw.1 x y z b w hb fx fy fz hy hs ht (fun i h b' w' hb'=>?_)
   simp only[T.sig,T.ty,d_,dY,kW]at hs ht
   have h1:=T.nH ts i h
   have h2:=T.uG ts i h
   have h3:=T.agA ts i h
   exact ih _ (by omega) (T.vT ts hw.2 i h) x (y+1) z (T.zX ts x (y+1) z hf.2 i h) hx (by omega) hz (by omega) (by omega) b' w' hb'
def T.f_ (t:T):Prop:=t.wf∧t.fits 0 0 0∧t.sig.length≤255∧t.ty.length≤1000000
theorem YW (a:A) (hg:a.dN.f_) (v:Value) (ok:Nat→Prop) (g c:Nat) (w:World) (hv:HA w ok a v) (hc:w.cell? ⟨g,0,none⟩=some v) (h1:1≤c) :
  fC 47 #[.slice (some ⟨g,0,none⟩) 1 c] w (.agg #[.string (bs a.dN.sig)]):=by
 obtain⟨gw,gf,gs,gt⟩:=hg
 have HV:=aj.mk hv
 have HT:=ah (fun (w1:World) (h:HA w1 ok a v)=>He a.rk a bW v w1 ok h gt)
 have HS:=ah (fun (b:Nat) (w1:World) (h:w1.heap[b]?=some (.cells #[.int .i64 0,.int .i64 0,.int .i64 0] 126 (0,0)))=>agj _ a.dN bW gw 0 0 0 gf (by omega) (by omega) (by omega) gs gt b w1 h)
 have HC:=aj.mk hc
 have HB:=aj.mk (jM w)
 have hlt:g<w.heap.size:=fA w _ hc
 go_enter func47,ntmps47
 go_wp2
 have KR:=aj.mk (aV w (.cells #[.string ⟨#[]⟩] 68) _ rfl)
 have HB:=aj.mk ((jM w).alloc bW (.cells #[.string ⟨#[]⟩] 68))
 go_loopw [3,8] (fun v3 v8 wr=>∃k:Nat,k≤1∧v8=.int .i64 (k:Nat)∧v3=.string (bs (if k=0 then[]else a.dN.sig))∧aj (wr.heap[w.heap.size]?=some (.cells #[.string ⟨#[]⟩] 68))∧aj (Below w.heap.size w wr)) (fun _ v8 _=>1-(intOf v8).toNat)
 case atStart=>exact⟨0,by omega,rfl,rfl,KR,HB⟩
 case round =>
  obtain⟨k,hk,rfl,rfl,KR,HB⟩:=hrel
  by_cases hk0:k=0
  ·subst hk0
   have c0:=(HB.o.cell (p:=⟨g,0,none⟩) hlt).trans HC.o
   have HV0:=aj.mk (HA.below HV.o HB.o)
   have hs0:(bs (if(0:Nat)=0 then[]else a.dN.sig))=⟨#[]⟩:=rfl
   have H:=fun w=>oZ w ⟨#[]⟩ (bs a.dN.sig) (by rw[aH];simp[ByteArray.size];omega)
   rw[hs0]
   go_wp2_with (first|(go_at_call 67;refine(HT.o _ HV0.o).mono ?_;rintro e w1 ⟨rfl,hb1⟩;have QG:=aj.mk ((hb1.block w.heap.size (lt_of_block KR.o)).trans KR.o);have HB1:=aj.mk (HB.o.trans (hb1.mono HB.o.size));clear hb1)|(go_at_call 66;refine(HS.o _ _ (aV _ _ _ rfl)).mono ?_;rintro e w2 ⟨rfl,hb2⟩;have KR2:=aj.mk ((hb2.block w.heap.size (by have:=lt_of_block QG.o;simp;omega)).trans (aQ QG.o _));have HB2:=aj.mk ((HB1.o.alloc HB1.o.size _).trans (hb2.mono (by have:=HB1.o.size;simp;omega)));clear hb2))
   go_roundw
   case rel=>exact⟨1,by omega,by go_num,by simp[show (⟨#[]⟩:bG)=bs []from rfl,dh],KR2,HB2⟩
   case measure=>simp[intOf]
  ·have hk1:k=1:=by omega
   subst hk1
   have hs0:(bs (if(1:Nat)=0 then[]else a.dN.sig))=bs a.dN.sig:=rfl
   have k4:=au KR.o 0 (v:=.string ⟨#[]⟩) rfl
   have k5:=aI KR.o 0
   rw[hs0]
   go_wp2
   refine iW (v:=.agg #[.string (bs a.dN.sig)]) (by simp[results,results47,go_sem,World.cell?_setCell_same _ _ _ k4,k4]) rfl ⟨rfl,?_⟩
   exact HB.o.setCell bW _
theorem YG (t:TypeId) (u:Value) (s:bG) (w:World) :
  fC 46 #[.iface t u,.agg #[.string s]] w (.agg #[.string s,.iface t u]):=by
 have HB:=aj.mk ((jM w).alloc bW (.cells #[.string s] 68))
 go_enter func46,ntmps46
 go_wp2
 refine iW (v:=.agg #[.string s,.iface t u]) (by simp[results,results46,go_sem]) rfl ⟨rfl,?_⟩
 exact HB.o.alloc (by simp) _
theorem mkVar (a:A) (hg:a.dN.f_) (v:Value) (ok:Nat→Prop) (w:World) (hv:HA w ok a v) :
  fC 30 #[v] w (.agg #[.string (bs a.dN.sig),v]):=by
 obtain⟨t,u,hvu⟩:=hv.iface
 subst hvu
 have HV:=aj.mk hv
 have HC:=ah (fun (w1:World) (g c:Nat) (h:HA w1 ok a (.iface t u)) (h1:w1.cell? ⟨g,0,none⟩=some (.iface t u)) (h2:1≤c)=>YW a hg _ ok g c w1 h h1 h2)
 go_enter func30,ntmps30
 go_wp2_with (first|(go_at_call 47;refine(HC.o _ _ _ (HA.below HV.o (((jM w).alloc bW (.cells #[.string ⟨#[]⟩,.nilIface] 70)).alloc (by simp) (.cells #[.iface t u] 20))) (au (aV _ _ _ (by simp)) 0 rfl) bW).mono ?_;rintro e w1 ⟨rfl,hb1⟩;have HB1:=aj.mk ((((jM w).alloc bW (.cells #[.string ⟨#[]⟩,.nilIface] 70)).alloc (by simp) (.cells #[.iface t u] 20)).trans (hb1.mono (by simp;omega)));have QG:=aj.mk ((hb1.block w.heap.size (by simp;omega)).trans (aQ (aV w (.cells #[.string ⟨#[]⟩,.nilIface] 70) _ rfl) _));clear hb1)|(go_at_call 46;refine(YG _ _ _ _).mono ?_;rintro e w2 ⟨rfl,hb1⟩;have HB2:=aj.mk (HB1.o.trans (hb1.mono HB1.o.size));have kr:=(hb1.block w.heap.size (lt_of_block QG.o)).trans QG.o;have k4:=au kr 0 (v:=.string ⟨#[]⟩) rfl;have k5:=aI kr 0;have k6:=au kr 1 (v:=.nilIface) rfl;have k7:=aI kr 1;clear hb1 kr))
 refine iW (v:=.agg #[.string (bs a.dN.sig),.iface t u]) (by simp[results,results30,go_sem,k4,k5,k6,k7]) rfl ⟨rfl,?_⟩
 exact(HB2.o.setCell bW _).setCell bW _
def vI (l r:UInt8):List UInt8→Int
 |[]=>0
 |c::L=>(if c=l then 1 else if c=r then -1 else 0)+vI l r L
theorem nG (l r:UInt8) (x y:List UInt8):vI l r (x++y)=vI l r x+vI l r y:=by
 induction x with
 |nil=>simp[vI]
 |cons c x ih=>simp only[lF,vI,ih];omega
def yJ (l r:UInt8) (L:List UInt8):Prop:=(∀k,0≤vI l r (L.take k))∧vI l r L=0
theorem yJ.nil (l r:UInt8):yJ l r []:=⟨fun k=>by simp[vI],rfl⟩
theorem yJ.append {l r:UInt8} {x y:List UInt8} (hx:yJ l r x) (hy:yJ l r y):yJ l r (x++y):=by
 refine⟨fun k=>?_,by rw[nG,hx.2,hy.2];rfl⟩
 rw[List.take_append,nG]
 rcases Nat.le_total k x.length with h|h
 ·have:=hx.1 k
  rw[Nat.sub_eq_zero_of_le h];simpa[vI]using this
 ·rw[kT h,hx.2]
  have:=hy.1 (k-x.length);omega
theorem yJ.one {l r c:UInt8} (h1:c≠l) (h2:c≠r):yJ l r [c]:=by
 refine⟨fun k=>?_,by simp[vI,h1,h2]⟩
 cases k<;>simp[vI,h1,h2]
theorem yJ.wrap {l r:UInt8} {x:List UInt8} (hlr:l≠r) (hx:yJ l r x):yJ l r (l::(x++[r])):=by
 refine⟨fun k=>?_,?_⟩
 ·cases k with
  |zero=>simp[vI]
  |succ k =>
   rw[List.take_succ_cons,List.take_append,vI,nG]
   have h1:=hx.1 k
   have h2:-1≤vI l r (List.take (k-x.length) [r]):=by
    cases k-x.length<;>simp[vI,Ne.symm hlr]
   simp;omega
 ·rw[vI,nG,hx.2];simp[vI,Ne.symm hlr]
theorem yJ.cons {l r c:UInt8} {x:List UInt8} (h1:c≠l) (h2:c≠r) (hx:yJ l r x):yJ l r (c::x):=(yJ.one h1 h2).append hx
theorem level {l r:UInt8} {x rest:List UInt8} (hlr:l≠r) (hx:yJ l r x) :
  (∀k,k≤x.length→vI l r ((l::(x++r::rest)).take (k+1))≠0)∧vI l r ((l::(x++r::rest)).take (x.length+2))=0:=by
 constructor
 ·intro k hk
  rw[List.take_succ_cons,List.take_append,vI,nG,Nat.sub_eq_zero_of_le hk]
  have:=hx.1 k
  simp[vI];omega
 ·rw[List.take_succ_cons,List.take_append,vI,nG,kT (by omega),hx.2]
  have:x.length+1-x.length=1:=by omega
  rw[this];simp[vI,Ne.symm hlr]
mutual
theorem T.xw:∀t:T,t.wf→yJ 123 125 t.sig
 | .base c,h=>yJ.one (by rintro rfl;simp[T.wf,dM]at h) (by rintro rfl;simp[T.wf,dM]at h)
 | .arr t,h=>(T.xw t h).cons (by decide) (by decide)
 | .dict k t,h=>by
   have h1:yJ 123 125 (123::((k::t.sig)++[125])):=yJ.wrap (by decide) ((T.xw t h.2).cons (by rintro rfl;simp[T.wf,kJ]at h) (by rintro rfl;simp[T.wf,kJ]at h))
   exact h1.cons (by decide) (by decide)
 | .str ts,h=>((T.Fa ts h.2).append (yJ.one (c:=41) (by decide) (by decide))).cons (by decide) (by decide)
theorem T.Fa:∀ts:List T,T.NV ts→yJ 123 125 (T.sigs ts)
 |[],_=>yJ.nil _ _
 |t::ts,h=>(T.xw t h.1).append (T.Fa ts h.2)
end
mutual
theorem T.CQ:∀t:T,t.wf→yJ 40 41 t.sig
 | .base c,h=>yJ.one (by rintro rfl;simp[T.wf,dM]at h) (by rintro rfl;simp[T.wf,dM]at h)
 | .arr t,h=>(T.CQ t h).cons (by decide) (by decide)
 | .dict k t,h=>by
   have h1:yJ 40 41 (k::(t.sig++[125])):=((T.CQ t h.2).append (yJ.one (c:=125) (by decide) (by decide))).cons (by rintro rfl;simp[T.wf,kJ]at h) (by rintro rfl;simp[T.wf,kJ]at h)
   exact(h1.cons (by decide) (by decide)).cons (by decide) (by decide)
 | .str ts,h=>yJ.wrap (by decide) (T.yT ts h.2)
theorem T.yT:∀ts:List T,T.NV ts→yJ 40 41 (T.sigs ts)
 |[],_=>yJ.nil _ _
 |t::ts,h=>(T.CQ t h.1).append (T.yT ts h.2)
end
def uf (L:List UInt8):Prop:=∀c∈L,c.toNat<128
theorem uf.append {x y:List UInt8} (hx:uf x) (hy:uf y):uf (x++y):=fun c h=>(List.mem_append.1 h).elim (hx c) (hy c)
theorem uf.cons {c:UInt8} {x:List UInt8} (hc:c.toNat<128) (hx:uf x):uf (c::x):=fun d h=>(List.mem_cons.1 h).elim (fun e=>e▸hc) (hx d)
theorem uf.nil:uf []:=fun c h=>by cases h
theorem dM.uf {c:UInt8} (h:dM c):c.toNat<128:=by
 unfold dM at h;rcases h with rfl|rfl|rfl|rfl|rfl|rfl|rfl|rfl|rfl|rfl|rfl|rfl|rfl|rfl<;>decide
mutual
theorem T.uf:∀t:T,t.wf→uf t.sig
 | .base c,h=>Ms.uf.cons (dM.uf h) Ms.uf.nil
 | .arr t,h=>(T.uf t h).cons (by decide)
 | .dict k t,h=>Ms.uf.cons (by decide) (Ms.uf.cons (by decide) (Ms.uf.cons (dM.uf h.1.base) ((T.uf t h.2).append (Ms.uf.cons (by decide) Ms.uf.nil))))
 | .str ts,h=>Ms.uf.cons (by decide) ((T.ahJ ts h.2).append (Ms.uf.cons (by decide) Ms.uf.nil))
theorem T.ahJ:∀ts:List T,T.NV ts→Ms.uf (T.sigs ts)
 |[],_=>Ms.uf.nil
 |t::ts,h=>(T.uf t h.1).append (T.ahJ ts h.2)
end
theorem acA (l r c:UInt8) (x:List UInt8):vI l r (x++[c])=vI l r x+(if c=l then 1 else if c=r then -1 else 0):=by
 rw[nG];simp[vI]
theorem W9 (l r:UInt8):∀x:List UInt8,vI l r x≤x.length∧-(x.length:Int)≤vI l r x
 |[]=>by simp[vI]
 |c::x=>by
  have:=W9 l r x
  simp only[vI,d_]
  split
  ·omega
  ·split<;>omega
theorem PI (l r:UInt8) (L:List UInt8) (p:Nat) (hp:p<L.length) (hasc:∀i (h:i<L.length),i≤p→(L[i]).toNat<128) (hne:∀k,k<p→vI l r (L.take (k+1))≠0) (he:vI l r (L.take (p+1))=0) (hl:L.length≤1000000) (w:World) :
  fC 128 #[.string (bs L),.int .i32 l.toNat,.int .i32 r.toNat] w (.int .i64 p):=by
 have HN:=ah hne
 have HE:=ah he
 have HA:=ah hasc
 clear hne he hasc
 go_enter func128,ntmps128
 go_wp2
 go_loopg [7] (p+1) (fun kq v7 wr=>∃k:Nat,aj (k+kq=p+1)∧aj (0<kq)∧v7=.int .i64 (vI l r (L.take k))∧wr=w.iter (bs L) k)
 case atStart=>exact⟨0,⟨by omega⟩,⟨by omega⟩,rfl,rfl⟩
 case round =>
  obtain⟨k,pX,uT,rfl,rfl⟩:=hrel
  have hkp:k≤p:=by have:=pX.o;have:=uT.o;omega
  have Jp:k<L.length:=by omega
  have hks:k<(bs L).size:=by rw[aH];exact Jp
  obtain⟨c,hc⟩:∃c,L[k]'Jp=c:=⟨_,rfl⟩
  have hcb:(bs L)[k]'hks=c:=(CS L k hks Jp).trans hc
  have ha:((bs L)[k]'hks).toNat<128:=by rw[hcb,←hc];exact HA.o k Jp hkp
  have hnx:=fun ty=>run_next_ascii (P:=prog) w (bs L) k ty hks ha
  rw[hcb]at hnx
  have hT:vI l r (L.take (k+1))=vI l r (L.take k)+(if c=l then 1 else if c=r then -1 else 0):=by
   rw[lu Jp,acA,hc]
  have hab:=W9 l r (L.take k)
  have hlen:(L.take k).length≤1000000:=by rw[List.length_take];omega
  have hz:(vI l r (L.take (k+1))==0)=decide (k=p):=by
   by_cases h:k=p
   ·subst h;rw[HE.o];simp
   ·have:=HN.o k (by omega);simp[h,this]
  generalize vI l r (L.take k)=n at hab hT ⊢
  obtain⟨m,hm⟩:∃m,vI l r (L.take (k+1))=m:=⟨_,rfl⟩
  rw[hm]at hT hz
  have HM:=ah hm
  have hci:∀d:UInt8,(((c.toNat:Nat):Int)==((d.toNat:Nat):Int))=decide (c=d):=fun d=>by
   by_cases h:c=d
   ·subst h;simp
   ·have:¬c.toNat=d.toNat:=fun e=>h (UInt8.toNat_inj.1 e)
    simp[h];omega
  have h1:=hci l
  have h2:=hci r
  clear hci hm ha hcb hc
  have HB:=aj.mk ((jM w).alloc bW (.stringIter (bs L) (k+1)))
  by_cases Yu:k=p
  ·have hz':(m==0)=true:=by rw[hz];simp[Yu]
   have HKP:=aj.mk Yu
   clear hz Yu
   by_cases c1:c=l
   ·have e1:(((c.toNat:Nat):Int)==((l.toNat:Nat):Int))=true:=by rw[h1];simp[c1]
    have hw1:IntKind.i64.wrap (n+1)=m:=by rw[hT,if_pos c1,IntKind.wrap_i64];omega
    clear h1 h2 hT c1
    go_wp2
    go_ret
    exact⟨by rw[←HKP.o];rfl,HB.o⟩
   ·have e1:(((c.toNat:Nat):Int)==((l.toNat:Nat):Int))=false:=by rw[h1];simp[c1]
    by_cases c2:c=r
    ·have e2:(((c.toNat:Nat):Int)==((r.toNat:Nat):Int))=true:=by rw[h2];simp[c2]
     have hw1:IntKind.i64.wrap (n-1)=m:=by rw[hT,if_neg c1,if_pos c2,IntKind.wrap_i64];omega
     clear h1 h2 hT c1 c2
     go_wp2
     go_ret
     exact⟨by rw[←HKP.o];rfl,HB.o⟩
    ·have e2:(((c.toNat:Nat):Int)==((r.toNat:Nat):Int))=false:=by rw[h2];simp[c2]
     have hw1:n=m:=by rw[hT,if_neg c1,if_neg c2];omega
     subst hw1
     clear h1 h2 hT c1 c2
     go_wp2
     go_ret
     exact⟨by rw[←HKP.o];rfl,HB.o⟩
  ·have hz':(m==0)=false:=by rw[hz];simp[Yu]
   have HKP:=aj.mk Yu
   clear hz Yu
   by_cases c1:c=l
   ·have e1:(((c.toNat:Nat):Int)==((l.toNat:Nat):Int))=true:=by rw[h1];simp[c1]
    have hw1:IntKind.i64.wrap (n+1)=m:=by rw[hT,if_pos c1,IntKind.wrap_i64];omega
    clear h1 h2 hT c1
    go_wp2
    go_roundg (gk-1)
    case measure=>have:=uT.o;omega
    case rel=>exact⟨k+1,⟨by have:=pX.o;have:=uT.o;omega⟩,⟨by have:=pX.o;have:=uT.o;have:=HKP.o;omega⟩,by rw[HM.o],rfl⟩
   ·have e1:(((c.toNat:Nat):Int)==((l.toNat:Nat):Int))=false:=by rw[h1];simp[c1]
    by_cases c2:c=r
    ·have e2:(((c.toNat:Nat):Int)==((r.toNat:Nat):Int))=true:=by rw[h2];simp[c2]
     have hw1:IntKind.i64.wrap (n-1)=m:=by rw[hT,if_neg c1,if_pos c2,IntKind.wrap_i64];omega
     clear h1 h2 hT c1 c2
     go_wp2
     go_roundg (gk-1)
     case measure=>have:=uT.o;omega
     case rel=>exact⟨k+1,⟨by have:=pX.o;have:=uT.o;omega⟩,⟨by have:=pX.o;have:=uT.o;have:=HKP.o;omega⟩,by rw[HM.o],rfl⟩
    ·have e2:(((c.toNat:Nat):Int)==((r.toNat:Nat):Int))=false:=by rw[h2];simp[c2]
     have hw1:n=m:=by rw[hT,if_neg c1,if_neg c2];omega
     subst hw1
     clear h1 h2 hT c1 c2
     go_wp2
     go_roundg (gk-1)
     case measure=>have:=uT.o;omega
     case rel=>exact⟨k+1,⟨by have:=pX.o;have:=uT.o;omega⟩,⟨by have:=pX.o;have:=uT.o;have:=HKP.o;omega⟩,by rw[HM.o],rfl⟩
end Go.Proofs.YtllcccekodcdmaaGreatDoor.Ms
