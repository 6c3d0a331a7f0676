import Derived.Test.YtllcccekodcdmaaGreatDoorC11
import Derived.Test.YtllcccekodcdmaaGreatDoorC19
set_option linter.unusedVariables false
set_option linter.unusedSimpArgs false
set_option maxRecDepth 100000
set_option maxHeartbeats 32000000
open Go.Proofs.Tryz
namespace Go.Proofs.YtllcccekodcdmaaGreatDoor.Ms
open Go Go.RowKit Go.Proofs.ak.aT Go.Proofs.ak.cO Go.Proofs.YtllcccekodcdmaaGreatDoor.bK Go.Proofs.YtllcccekodcdmaaGreatDoor.Fl
def A.str (a:A):List UInt8:=if a.fmt.2 then a.fmt.1 else[64]++a.dN.sig++[32]++a.fmt.1
theorem A.agq (a:A) (h:a.wQ):a.str.length≤a.tl+a.dN.sig.length+2:=by
 have:=A.xJ a h
 unfold A.str
 split
 ·omega
 ·simp only[dY,d_,kW];omega
theorem Xo (a:A) (h:og a) (hl:a.fmt.1.length≤10000000) (hs:a.dN.sig.length≤1000000) (ok:Nat→Prop) (v:Value) (w:World) (hv:HA w ok a v) (pt:l7 w) :
  fC 32 #[.agg #[.string (bs a.dN.sig),v]] w (.string (bs a.str)):=by
 obtain⟨t',u',rfl⟩:=hv.iface
 have IH:=ah (fun o=>h ok _ (w.alloc o) (hv.below (gG o)) (pt.below (gG o)))
 have e1:bs a.str=if a.fmt.2 then bs a.fmt.1 else(((⟨#[64]⟩++bs a.dN.sig:bG)++⟨#[32]⟩)++bs a.fmt.1):=by
  unfold A.str
  split
  ·rfl
  ·rw[←dh,←dh,←dh];rfl
 have hs:(bs a.dN.sig).size≤10000000:=by rw[aH];omega
 have hf:(bs a.fmt.1).size≤10000000:=by rw[aH];omega
 rw[e1]
 generalize bs a.fmt.1=F at *
 generalize bs a.dN.sig=S at *
 generalize a.fmt.2=B at *
 clear e1 hl hv pt h
 have H1:=fun w=>oZ w ⟨#[64]⟩ S (by show 1+_≤_;omega)
 have H2:=fun w=>oZ w (⟨#[64]⟩++S) ⟨#[32]⟩ (by rw[gK];show 1+_+1≤_;omega)
 have H3:=fun w=>oZ w ((⟨#[64]⟩++S)++⟨#[32]⟩) F (by rw[gK,gK];show 1+_+1+_≤_;omega)
 cases B
 ·rw[if_neg (by decide)]
  go_enter func32,ntmps32
  go_wp2_with (go_at_call 54;refine(IH.o _).mono ?_;rintro e w1 ⟨rfl,hb1⟩;have ⟨hB,kr,hlt⟩:=dP hb1;have k4:w1.cell? ⟨w.heap.size,0,none⟩=some (.string S):=au kr 0 rfl;have HB1:=aj.mk hB;clear hb1 kr hlt hB)
  go_ret
  exact⟨rfl,HB1.o⟩
 ·rw[if_pos rfl]
  go_enter func32,ntmps32
  go_wp2_with (go_at_call 54;refine(IH.o _).mono ?_;rintro e w1 ⟨rfl,hb1⟩;have ⟨hB,kr,hlt⟩:=dP hb1;have HB1:=aj.mk hB;clear hb1 kr hlt hB)
  go_ret
  exact⟨rfl,HB1.o⟩
theorem aiU (p q:Value) (w:World):CallsD prog 29 #[p,q] .returning w fun e u' w'=>e=.returned (.tuple #[])∧u'=.returning∧w'=w:=by
 refine callsD_of_wpS func29 rfl fun c₀ cs hu=>?_
 apply wpS_seq
 apply wpS_region
 simp[wpOpsS,go_sem,recoverD,hu,ntmps29,Exit.thenS]
 refine wpS_cond (t:=false) (by simp[Act.eval,Array.replicate]) ?_
 simp only[Bool.false_eq_true,if_false]
 refine wpS_of_wp (wp_skip ?_)
 cases c₀
 simp_all [bodyPostS,results,results29]
theorem aiV (p q:Value) (w:World):CallsD prog 33 #[p,q] .returning w fun e u' w'=>e=.returned (.tuple #[])∧u'=.returning∧w'=w:=by
 refine callsD_of_wpS func33 rfl fun c₀ cs hu=>?_
 apply wpS_seq
 apply wpS_region
 simp[wpOpsS,go_sem,recoverD,hu,ntmps33,Exit.thenS]
 refine wpS_cond (t:=false) (by simp[Act.eval,Array.replicate]) ?_
 simp only[Bool.false_eq_true,if_false]
 refine wpS_of_wp (wp_skip ?_)
 cases c₀
 simp_all [bodyPostS,results,results33]
theorem wI {w w1:World} {X Y Z:Obj} (hb:Below (((w.alloc X).alloc Y).alloc Z).heap.size (((w.alloc X).alloc Y).alloc Z) w1) :
  Below w.heap.size w w1∧w1.heap[w.heap.size]?=some X∧w1.heap[w.heap.size+1]?=some Y∧w1.heap[w.heap.size+1+1]?=some Z:=by
 obtain⟨h1,k1,l1⟩:=dP hb
 have hs:((w.alloc X).alloc Y).heap.size=w.heap.size+1+1:=by simp
 have hs1:(w.alloc X).heap.size=w.heap.size+1:=by simp
 obtain⟨h2,k2,l2⟩:=dP h1
 obtain⟨h3,k3,l3⟩:=dP h2
 rw[hs]at k1
 rw[hs1]at k2
 exact⟨h3,k3,k2,k1⟩
theorem RG (a:A) (y:l9) (hi:uS y a) (hg:a.dN.f_) (hf:a.wQ) (hl:a.tl≤10000000) (A3:Option Addr) (c3:Nat) (w:World) (hc:Kd.C ug w A3 y.f3.length y.f3) (hcc:y.f3.length≤c3) (pt:l7 w) :
  fC 18 #[.agg #[.int .u8 y.f0,.int .u64 y.f1,.string y.f2,.slice A3 y.f3.length c3]] w (.tuple #[.string (bs a.str),.nilIface]):=by
 have hmf:∀(fn:Fn) (first cap:Array Value) (w:World),(Instr.makeFunc fn first cap).run prog w=.ok (.func fn first cap) w:=fun _ _ _ _=>rfl
 have hfl:=A.xJ a hf
 have hsl:a.dN.sig.length≤1000000:=Nat.le_trans hg.2.2.1 (by omega)
 have DO:=ah (fun W (hb:Below w.heap.size w W)=>hi A3 c3 W (bQ hc hb) hcc)
 have PT:=ah pt
 have VS:=ah (fun ok v W h p=>Xo a (U8 _ a bW hg hf hl) (by omega) hsl ok v W h p:∀ok v W,HA W ok a v→l7 W→_)
 clear hc hcc pt hi hf hfl
 go_enter_defers func18,ntmps18
 go_wp2_with (first
  |(go_at_call 31;refine(DO.o _ (((gG _).alloc (by simp) _).alloc (by simp;omega) _)).mono ?_;rintro e w1 ⟨v,rfl,hv,hb1⟩;obtain⟨hB,k0,k1,k2⟩:=wI hb1;obtain⟨t',u',rfl⟩:=hv.iface;have HV:=ah hv;have HB:=ah hB;have K1:=ah k1;have K2:=ah k2;clear hb1 hB k0 k1 k2 hv)
  |(go_at_call 30;refine(mkVar a hg _ _ _ HV.o).mono ?_;rintro e w2 ⟨rfl,hb2⟩;have HV:=ah (HV.o.below hb2);have HB:=ah (HB.o.trans (hb2.mono HB.o.size));have K1:=ah ((hb2.block _ (lt_of_block K1.o)).trans K1.o);have K2:=ah ((hb2.block _ (lt_of_block K2.o)).trans K2.o);clear hb2)
  |(go_at_call 32;refine(VS.o _ _ _ HV.o (PT.o.below HB.o)).mono ?_;rintro e w3 ⟨rfl,hb3⟩;have HB:=ah (HB.o.trans (hb3.mono HB.o.size));have k1:=(hb3.block _ (lt_of_block K1.o)).trans K1.o;have k2:=(hb3.block _ (lt_of_block K2.o)).trans K2.o;have c1:=au k1 0 (v:=.string ⟨#[]⟩) rfl;have c2:=au k2 0 (v:=.nilIface) rfl;have f1:=aI k1 0;have f2:=aI k2 0;clear hb3))
 refine leaves_cons (f:=29) (args:=#[.pointer (some ⟨w.heap.size+1,0,none⟩),.pointer (some ⟨w.heap.size+1+1,0,none⟩)]) (by simp) (by simp[go_sem]) ?_
 refine(aiU _ _ _).mono ?_
 rintro e u' w'' ⟨rfl,rfl,rfl⟩
 have hB1:Below w.heap.size w ((w3.setCell ⟨w.heap.size+1,0,none⟩ (.string (bs a.str))).setCell ⟨w.heap.size+1+1,0,none⟩ .nilIface):=(HB.o.setCell (p:=⟨w.heap.size+1,0,none⟩) (by simp) _).setCell (p:=⟨w.heap.size+1+1,0,none⟩) (by simp;omega) _
 have j1:=Joins.block_setCell k1 (i:=0) (.string (bs a.str))
 have j2:=(ku w3 ⟨w.heap.size+1,0,none⟩ (.string (bs a.str)) (w.heap.size+1+1) (by simp)).trans k2
 have l1:=(ku (w3.setCell ⟨w.heap.size+1,0,none⟩ (.string (bs a.str))) ⟨w.heap.size+1+1,0,none⟩ .nilIface (w.heap.size+1) (by simp)).trans j1
 have l2:=Joins.block_setCell j2 (i:=0) .nilIface
 generalize ((w3.setCell ⟨w.heap.size+1,0,none⟩ (.string (bs a.str))).setCell ⟨w.heap.size+1+1,0,none⟩ .nilIface)=w4 at *
 have m1:w4.cell? ⟨w.heap.size+1,0,none⟩=some (.string (bs a.str)):=au l1 0 rfl
 have m2:w4.cell? ⟨w.heap.size+1+1,0,none⟩=some .nilIface:=au l2 0 rfl
 simp[Leaves,settle,results,results18,go_sem,m1,m2,hB1]
end Go.Proofs.YtllcccekodcdmaaGreatDoor.Ms
namespace Go.Proofs.YtllcccekodcdmaaGreatDoor.Ms
open Go Go.RowKit Go.Proofs.ak.aT Go.Proofs.ak.cO Go.Proofs.YtllcccekodcdmaaGreatDoor.bK
mutual
def Qw:dS→l9
 |⟨k,n,s,l⟩=>⟨k,n,s,jw l⟩
def jw:List dS→List l9
 |[]=>[]
 |a::l=>Qw a::jw l
end
theorem tY (x:dS):Qw x=⟨x.f0,x.f1,x.f2,jw x.f3⟩:=by cases x;rw[Qw]
theorem oN:∀l:List dS,(jw l).length=l.length
 |[]=>rfl
 |a::l=>by simp[jw,oN l]
theorem Ea:∀a b:List dS,jw (a++b)=jw a++jw b
 |[],b=>rfl
 |x::a,b=>by simp[jw,Ea a b]
theorem JM (l:List dS) (i:Nat) (h:i<l.length):jw (l.take (i+1))=jw (l.take i)++[Qw l[i]]:=by
 rw[lu h,Ea];rfl
theorem Hl (l:List dS) (i:Nat) (h:i<l.length) (h':i<(jw l).length):(jw l)[i]=Qw l[i]:=by
 induction l generalizing i with
 |nil=>simp at h
 |cons a l ih =>
  cases i with
  |zero=>rfl
  |succ i=>simp only[jw,List.getElem_cons_succ];exact ih i (by simpa using h) _
theorem Ho (n:Nat):∀x:dS,kZ x≤n→kZ x≤1000000→∃k,aZ.f k x.f0 x.f1 x.f2 x.f3=some (x.f0,x.f1,x.f2,jw x.f3):=by
 induction n with
 |zero=>intro x h;rw[iG]at h;omega
 |succ n ih =>
 intro x hn hb
 rw[iG]at hn hb
 have hl:=fK x.f3
 have loop:∀(j i:Nat),x.f3.length-i≤j→i≤x.f3.length→∃k,aZ.l0 k x.f3 (x.f3.length:Int) (i:Int) x.f0 x.f1 x.f2 (jw (x.f3.take i))=some (x.f0,x.f1,x.f2,jw x.f3):=by
  have fin:aZ.l0 1 x.f3 (x.f3.length:Int) (x.f3.length:Int) x.f0 x.f1 x.f2 (jw (x.f3.take x.f3.length))=some (x.f0,x.f1,x.f2,jw x.f3):=by
   simp only[aZ.l0]
   rw[if_neg (by omega),List.take_length]
  intro j
  induction j with
  |zero =>
   intro i hj hi
   have e1:i=x.f3.length:=by omega
   subst e1
   exact⟨1,fin⟩
  |succ j Ip =>
   intro i hj hi
   by_cases hlt:i<x.f3.length
   ·have hc:=iT x.f3 i hlt
    obtain⟨k1,h1⟩:=ih x.f3[i] (by omega) (by omega)
    obtain⟨k2,h2⟩:=Ip (i+1) (by omega) (by omega)
    refine⟨max k1 k2+1,?_⟩
    simp only[aZ.l0]
    rw[if_pos (by omega),if_pos (by omega),if_pos (by omega),o9 _ _ hlt,eY (F:=fun j=>aZ.f j (x.f3[i]).f0 (x.f3[i]).f1 (x.f3[i]).f2 (x.f3[i]).f3) (fun j=>aZ.mono _ _ _ _ j) (Nat.le_max_left k1 k2) h1]
    simp only[Option.bind_some]
    rw[if_pos (by rw[oN,List.length_take];omega),EM i (by omega)]
    rw[JM _ _ hlt,tY]at h2
    exact eY (F:=fun j=>aZ.l0 j x.f3 (x.f3.length:Int) ((i+1:Nat):Int) x.f0 x.f1 x.f2 (jw (x.f3.take i)++[⟨(x.f3[i]).f0,(x.f3[i]).f1,(x.f3[i]).f2,jw (x.f3[i]).f3⟩])) (fun j=>(aZ.dZ j).2 _ _ _ _ _ _ _) (Nat.le_max_right k1 k2) h2
   ·have e1:i=x.f3.length:=by omega
    subst e1
    exact⟨1,fin⟩
 obtain⟨k,hk⟩:=loop _ 0 bW (jf _)
 exact⟨k+1,hk⟩
theorem Zv (l:List dS) (hb:eu l≤1000000):∃k,bJ.f k l=some (jw l):=by
 have hl:=fK l
 have loop:∀(j i:Nat),l.length-i≤j→i≤l.length→∃k,bJ.l0 k (jw (l.take i)) l (l.length:Int) (i:Int)=some (jw l):=by
  have fin:bJ.l0 1 (jw (l.take l.length)) l (l.length:Int) (l.length:Int)=some (jw l):=by
   simp only[bJ.l0]
   rw[if_neg (by omega),List.take_length]
  intro j
  induction j with
  |zero =>
   intro i hj hi
   have e1:i=l.length:=by omega
   subst e1
   exact⟨1,fin⟩
  |succ j Ip =>
   intro i hj hi
   by_cases hlt:i<l.length
   ·have hc:=iT l i hlt
    obtain⟨k1,h1⟩:=Ho _ l[i] bW (by omega)
    obtain⟨k2,h2⟩:=Ip (i+1) (by omega) (by omega)
    refine⟨max k1 k2+1,?_⟩
    simp only[bJ.l0]
    rw[if_pos (by omega),if_pos (by omega),if_pos (by omega),o9 _ _ hlt,eY (F:=fun j=>aZ.f j (l[i]).f0 (l[i]).f1 (l[i]).f2 (l[i]).f3) (fun j=>aZ.mono _ _ _ _ j) (Nat.le_max_left k1 k2) h1]
    simp only[Option.bind_some]
    rw[if_pos (by rw[oN,List.length_take];omega),EM i (by omega)]
    rw[JM _ _ hlt,tY]at h2
    exact eY (F:=fun j=>bJ.l0 j (jw (l.take i)++[⟨(l[i]).f0,(l[i]).f1,(l[i]).f2,jw (l[i]).f3⟩]) l (l.length:Int) ((i+1:Nat):Int)) (fun j=>bJ.dZ j _ _ _ _) (Nat.le_max_right k1 k2) h2
   ·have e1:i=l.length:=by omega
    subst e1
    exact⟨1,fin⟩
 exact loop _ 0 bW (jf _)
def RX (f:jB):BP:=⟨f.f0,Qw f.f1⟩
theorem agc (l:List jB) (i:Nat) (h:i<l.length):bC l (i:Int)=l[i]:=by
 simp[bC,wC,gQ h]
theorem acv (t f s:Int) (fs:List jB) (body:List dS) (hb:eu body≤1000000) (hl:fs.length≤1000000) (hf:∀(i:Nat) (h:i<fs.length),kZ (fs[i]).f1≤1000000):∃k,dB.f k t f s fs body=some (t,f,s,fs.map RX,jw body):=by
 have loop:∀(j i:Nat),fs.length-i≤j→i≤fs.length→∃k,dB.l0 k fs (fs.length:Int) (i:Int) t f s ((fs.take i).map RX) (jw body)=some (t,f,s,fs.map RX,jw body):=by
  have fin:dB.l0 1 fs (fs.length:Int) (fs.length:Int) t f s ((fs.take fs.length).map RX) (jw body)=some (t,f,s,fs.map RX,jw body):=by
   simp only[dB.l0]
   rw[if_neg (by omega),List.take_length]
  intro j
  induction j with
  |zero =>
   intro i hj hi
   have e1:i=fs.length:=by omega
   subst e1
   exact⟨1,fin⟩
  |succ j Ip =>
   intro i hj hi
   by_cases hlt:i<fs.length
   ·obtain⟨k1,h1⟩:=Ho _ (fs[i]).f1 bW (hf i hlt)
    obtain⟨k2,h2⟩:=Ip (i+1) (by omega) (by omega)
    refine⟨max k1 k2+1,?_⟩
    simp only[dB.l0]
    rw[if_pos (by omega),if_pos (by omega),if_pos (by omega),agc _ _ hlt,eY (F:=fun j=>aZ.f j (fs[i]).f1.f0 (fs[i]).f1.f1 (fs[i]).f1.f2 (fs[i]).f1.f3) (fun j=>aZ.mono _ _ _ _ j) (Nat.le_max_left k1 k2) h1]
    simp only[Option.bind_some]
    rw[if_pos (by rw[List.length_map,List.length_take];omega),EM i (by omega)]
    have e:(fs.take (i+1)).map RX=(fs.take i).map RX++[⟨(fs[i]).f0,⟨(fs[i]).f1.f0,(fs[i]).f1.f1,(fs[i]).f1.f2,jw (fs[i]).f1.f3⟩⟩]:=by
     rw[lu hlt,List.map_append]
     show _++[RX fs[i]]=_
     rw[RX,tY]
    rw[e]at h2
    exact eY (F:=fun j=>dB.l0 j fs (fs.length:Int) ((i+1:Nat):Int) t f s ((fs.take i).map RX++[⟨(fs[i]).f0,⟨(fs[i]).f1.f0,(fs[i]).f1.f1,(fs[i]).f1.f2,jw (fs[i]).f1.f3⟩⟩]) (jw body)) (fun j=>dB.dZ j _ _ _ _ _ _ _ _) (Nat.le_max_right k1 k2) h2
   ·have e1:i=fs.length:=by omega
    subst e1
    exact⟨1,fin⟩
 obtain⟨k1,h1⟩:=Zv body hb
 obtain⟨k2,h2⟩:=loop _ 0 bW (jf _)
 refine⟨max k1 k2,?_⟩
 unfold dB.f
 rw[eY (F:=fun j=>bJ.f j body) (fun j=>bJ.mono _ j) (Nat.le_max_left k1 k2) h1]
 simp only[Option.bind_some]
 exact eY (F:=fun j=>dB.l0 j fs (fs.length:Int) 0 t f s [] (jw body)) (fun j=>dB.dZ j _ _ _ _ _ _ _ _) (Nat.le_max_right k1 k2) h2
end Go.Proofs.YtllcccekodcdmaaGreatDoor.Ms
namespace Go.Proofs.YtllcccekodcdmaaGreatDoor.Ms
open Go Go.RowKit Go.Proofs.ak.aT Go.Proofs.YtllcccekodcdmaaGreatDoor.bK
def oL (x:dS):Sc :=
 if x.f0=121 then .y (IntKind.u8.wrap x.f1)else if x.f0=110 then .n (IntKind.i16.wrap x.f1)else if x.f0=113 then .q (IntKind.u16.wrap x.f1)else if x.f0=105 then .i (wrap32 x.f1)
 else if x.f0=117 then .u (IntKind.u32.wrap x.f1)else if x.f0=120 then .x (wrap64 x.f1)else if x.f0=116 then .t x.f1 else if x.f0=104 then .h (IntKind.u32.wrap x.f1)
 else if x.f0=98 then .b (x.f1 != 0)else if x.f0=100 then .d x.f1.toNat else if x.f0=115 then .s x.f2 else if x.f0=111 then .o x.f2 else .g x.f2
def Sc.CW:Sc→Prop
 | .s v=>zI v| .o v=>CB v| _=>True
def oI (k:Int):Prop:=k=121∨k=110∨k=113∨k=105∨k=117∨k=120∨k=116∨k=104∨k=98∨k=100∨k=115∨k=111∨k=103
theorem Fg (k:Int) (h:Kq k):oI k:=by
 unfold Kq eF.f at h
 unfold oI
 by_cases alu:k=121
 ·simp[alu]
 rw[if_neg alu]at h
 by_cases e98:k=98
 ·simp[e98]
 rw[if_neg e98]at h
 by_cases alr:k=110
 ·simp[alr]
 rw[if_neg alr]at h
 by_cases als:k=113
 ·simp[als]
 rw[if_neg als]at h
 by_cases alq:k=105
 ·simp[alq]
 rw[if_neg alq]at h
 by_cases e117:k=117
 ·simp[e117]
 rw[if_neg e117]at h
 by_cases e120:k=120
 ·simp[e120]
 rw[if_neg e120]at h
 by_cases e116:k=116
 ·simp[e116]
 rw[if_neg e116]at h
 by_cases e100:k=100
 ·simp[e100]
 rw[if_neg e100]at h
 by_cases e115:k=115
 ·simp[e115]
 rw[if_neg e115]at h
 by_cases ah2:k=111
 ·simp[ah2]
 rw[if_neg ah2]at h
 by_cases ah1:k=103
 ·simp[ah1]
 rw[if_neg ah1]at h
 by_cases alp:k=104
 ·simp[alp]
 rw[if_neg alp]at h
 cases h
theorem Bj (x:dS) (hk:oI x.f0) (hu:0≤x.f1∧x.f1<18446744073709551616) (hs:x.f2.size≤65536) (ht:Td x) :
  (((oL x).code.toNat:Nat):Int)=x.f0∧akO x.f1 x.f2 (oL x)∧(oL x).vK∧(oL x).CW∧x.f3=[]:=by
 obtain⟨k,n,s,l⟩:=x
 simp only at hk hu hs
 obtain⟨t1,t2,t3,t4,t5,-,-,-,-,t10,-⟩:=ht
 rcases hk with rfl|rfl|rfl|rfl|rfl|rfl|rfl|rfl|rfl|rfl|rfl|rfl|rfl
 ·have h0:=(t10 (by decide) (by decide) (by decide) (by decide) (by decide) (by decide) (by decide)).2
  refine⟨rfl,rfl,?_,trivial,h0⟩
  show 0≤IntKind.u8.wrap n∧IntKind.u8.wrap n<256
  rw[IntKind.wrap_u8];omega
 ·have h0:=(t10 (by decide) (by decide) (by decide) (by decide) (by decide) (by decide) (by decide)).2
  refine⟨rfl,rfl,?_,trivial,h0⟩
  have h:IntKind.i16.wrap n=(n+32768)%65536-32768:=by
   simp only[IntKind.wrap,IntKind.bits,IntKind.signed];simp;omega
  show -32768≤IntKind.i16.wrap n∧IntKind.i16.wrap n<32768
  rw[h];omega
 ·have h0:=(t10 (by decide) (by decide) (by decide) (by decide) (by decide) (by decide) (by decide)).2
  refine⟨rfl,rfl,?_,trivial,h0⟩
  have h:IntKind.u16.wrap n=n%65536:=by simp[IntKind.wrap,IntKind.bits,IntKind.signed]
  show 0≤IntKind.u16.wrap n∧IntKind.u16.wrap n<65536
  rw[h];omega
 ·have h0:=(t10 (by decide) (by decide) (by decide) (by decide) (by decide) (by decide) (by decide)).2
  refine⟨rfl,rfl,?_,trivial,h0⟩
  show -2147483648≤wrap32 n∧wrap32 n<2147483648
  unfold wrap32;omega
 ·have h0:=(t10 (by decide) (by decide) (by decide) (by decide) (by decide) (by decide) (by decide)).2
  refine⟨rfl,rfl,?_,trivial,h0⟩
  show 0≤IntKind.u32.wrap n∧IntKind.u32.wrap n<4294967296
  rw[IntKind.wrap_u32];omega
 ·have h0:=(t10 (by decide) (by decide) (by decide) (by decide) (by decide) (by decide) (by decide)).2
  refine⟨rfl,rfl,?_,trivial,h0⟩
  show -9223372036854775808≤wrap64 n∧wrap64 n<9223372036854775808
  unfold wrap64;omega
 ·have h0:=(t10 (by decide) (by decide) (by decide) (by decide) (by decide) (by decide) (by decide)).2
  exact⟨rfl,rfl,hu,trivial,h0⟩
 ·have h0:=(t10 (by decide) (by decide) (by decide) (by decide) (by decide) (by decide) (by decide)).2
  refine⟨rfl,rfl,?_,trivial,h0⟩
  show 0≤IntKind.u32.wrap n∧IntKind.u32.wrap n<4294967296
  rw[IntKind.wrap_u32];omega
 ·have h0:=(t10 (by decide) (by decide) (by decide) (by decide) (by decide) (by decide) (by decide)).2
  exact⟨rfl,rfl,trivial,trivial,h0⟩
 ·have h0:=(t10 (by decide) (by decide) (by decide) (by decide) (by decide) (by decide) (by decide)).2
  refine⟨rfl,?_,?_,trivial,h0⟩
  ·show((n.toNat:Nat):Int)=n;omega
  ·show n.toNat<18446744073709551616;omega
 ·have h0:=t3 rfl
  exact⟨rfl,rfl,by show s.size≤1000000;omega,h0.1,h0.2⟩
 ·have h0:=t4 rfl
  exact⟨rfl,rfl,by show s.size≤1000000;omega,h0.1,h0.2⟩
 ·have h0:=t5 rfl
  exact⟨rfl,rfl,by show s.size≤1000000;omega,trivial,h0.2⟩
end Go.Proofs.YtllcccekodcdmaaGreatDoor.Ms
namespace Go.Proofs.YtllcccekodcdmaaGreatDoor.Ms
open Go Go.RowKit Go.Proofs.ak.aT Go.Proofs.ak.cO Go.Proofs.YtllcccekodcdmaaGreatDoor.bK
def fG (b k:Nat) (w:World):Prop:=∃(o l c:Nat) (x y:Value) (t:TypeId) (f:Nat×Nat),w.heap[b]?=some (.cells #[.slice (some ⟨k,o,none⟩) l c,x,y] t f)
theorem fG.of {b k g o l c:Nat} {x y:Value} {t:TypeId} {f:Nat×Nat} {w:World} (hb:w.heap[b]?=some (.cells #[.slice (some ⟨g,o,none⟩) l c,x,y] t f)) (h:fG b k w):k=g:=by
 obtain⟨o1,l1,c1,x1,y1,t1,f1,h⟩:=h
 rw[hb]at h
 simp at h
 exact h.1.1.1.1.symm
theorem fG.nil {b k l c:Nat} {x y:Value} {t:TypeId} {f:Nat×Nat} {w:World} (hb:w.heap[b]?=some (.cells #[.slice none l c,x,y] t f)) (h:fG b k w):False:=by
 obtain⟨o1,l1,c1,x1,y1,t1,f1,h⟩:=h
 rw[hb]at h
 simp at h
theorem fG.keep {b k:Nat} {w w':World} (hb:w'.heap[b]?=w.heap[b]?) (h:fG b k w'):fG b k w:=by
 obtain⟨o1,l1,c1,x1,y1,t1,f1,h⟩:=h
 exact⟨o1,l1,c1,x1,y1,t1,f1,hb▸h⟩
def N7 (B b l n:Nat) (bs:List Value) (w:World) (e:Ending) (w':World):Prop :=
 e=.returned (.int .i64 l)∧(∃xs,xs.length=n∧Lib.IsBuffer 151 5 B b (bs++xs) w')∧Below B w w'∧w.grownBy w' (some b)∧∀k,fG b k w'→w.heap.size≤k
theorem Sj (B b n:Nat) (lr:Int) (w:World) (hB:B≤b) (hBw:B≤w.heap.size) (hbk:w.heap[b]?=some (.cells #[.slice none 0 0,.int .i64 0,.int .i8 lr] 151 (0,0))) (hn:1≤n) (h64:n≤64) :
  Calls prog 115 #[.pointer (some ⟨b,0,none⟩),.int .i64 n] w (N7 B b 0 n [] w):=by
 obtain⟨i0,hi,hz0,hz1,hz2⟩:=info_parts uI.i5
 change prog.info? 5=some i0 at hi
 obtain⟨M,hM⟩:∃M,M=madeCells (Value.int .u8 0).cells ((64:Int).toNat*i0.size):=⟨_,rfl⟩
 have hMs:M.size=64:=by rw[hM,size_madeCells,hz1];rfl
 have hmk:∀W:World,(Instr.makeSlice 65 (.int .i64 (n:Int)) (.int .i64 64)).run prog W=.ok (.slice (some ⟨W.heap.size,0,none⟩) n 64) (W.alloc (.cells M 5)):=fun W=>by
  have h:=run_makeSlice (P:=prog) (w:=W) 65 5 i0 (.int .u8 0) underlying65 hi hz0 .i64 .i64 (n:Int) 64 (by omega) (by omega) (by rw[hz1];decide) (by rw[hz2];decide) (by decide)
  rw[←hM]at h
  simpa using h
 clear hM
 have hIs:Lib.IsBuffer 151 5 B b [] w:=⟨hB,_,_,hbk,World.ownsRow_nil _ _ _ _,by simp[Value.ownBlock]⟩
 have hnil:∀W,(binOp .eql 65 (.slice none 0 0) (.slice none 0 0)).run prog W=.ok (.bool true) W:=fun W=>Lib.run_eql_slice_nil_nil W _ _ underlying65
 go_enter func115,ntmps115
 go_wp2_with (go_at_call 134;refine(Tryz.Buffer_Len B b [] _ hIs).mono ?_)
 rintro e W0 ⟨rfl,k,hW0⟩
 have hbk0:W0.heap[b]?=some (.cells #[.slice none 0 0,.int .i64 0,.int .i8 lr] 151 (0,0)):=by rw[hW0];exact hbk
 have c0:W0.cell? ⟨b,0,none⟩=some (.slice none 0 0):=by rw[mM hbk0];rfl
 have c1:W0.cell? ⟨b,1,none⟩=some (.int .i64 0):=by rw[mM hbk0];rfl
 have f0:W0.frozen? ⟨b,0,none⟩=false:=Lib.frozen_of_heap hbk0 0
 have f1:W0.frozen? ⟨b,1,none⟩=false:=Lib.frozen_of_heap hbk0 1
 have hbW0:=Lib.lt_of_heap hbk0
 have c0a:∀o,(W0.alloc o).cell? ⟨b,0,none⟩=some (.slice none 0 0):=fun o=>(World.cell?_of_block (a:=⟨b,0,none⟩) (kN W0 o b hbW0)).trans c0
 have f0a:∀o,(W0.alloc o).frozen? ⟨b,0,none⟩=false:=fun o=>(World.frozen?_of_block (a:=⟨b,0,none⟩) (kN W0 o b hbW0)).trans f0
 have HW0:=ah hW0
 clear hW0 hIs
 go_wp2_with (go_at_call 114;refine(Tryz.Buffer_tryGrow_none b _ 0 0 n _ c0 bW (jf _) (by omega)).mono ?_;rintro e w' ⟨rfl,rfl⟩)
 go_ret
 have hsz0:w'.heap.size=w.heap.size:=by rw[HW0.o];rfl
 have hb0:Below B w w':=by rw[HW0.o];exact⟨rfl,rfl,rfl,bW,fun _ _=>rfl⟩
 have hg0:w.grownBy w' (some b):=by rw[HW0.o];exact⟨rfl,rfl,rfl,bW,fun _ _ _=>rfl⟩
 obtain⟨xs,q1,q2,q3⟩:=Lib.grow_small_end (n:=n) (cap:=64) hB hbk0 (by omega) hMs h64 (by unfold maxLen;omega) hb0
 refine⟨rfl,⟨xs,q1,q2⟩,q3,Lib.grownBy_allocR (Lib.grownBy_setB hg0 0 _) _,fun k hk=>?_⟩
 have hf:=aQ (Joins.block_setCell hbk0 (i:=0) (.slice (some ⟨w'.heap.size,0,none⟩) n 64)) (.cells M 5)
 have:=hk.of hf
 omega
theorem abr (B b n:Nat) (lr:Int) (w:World) (hB:B≤b) (hBw:B≤w.heap.size) (hbk:w.heap[b]?=some (.cells #[.slice none 0 0,.int .i64 0,.int .i8 lr] 151 (0,0))) (h64:64<n) (hlim:n≤140737488355328) :
  Calls prog 115 #[.pointer (some ⟨b,0,none⟩),.int .i64 n] w (N7 B b 0 n [] w):=by
 have hn:1≤n:=by omega
 have hIs:Lib.IsBuffer 151 5 B b [] w:=⟨hB,_,_,hbk,World.ownsRow_nil _ _ _ _,by simp[Value.ownBlock]⟩
 have hnil:∀W,(binOp .eql 65 (.slice none 0 0) (.slice none 0 0)).run prog W=.ok (.bool true) W:=fun W=>Lib.run_eql_slice_nil_nil W _ _ underlying65
 go_enter func115,ntmps115
 go_wp2_with (go_at_call 134;refine(Tryz.Buffer_Len B b [] _ hIs).mono ?_)
 rintro e W0 ⟨rfl,k,hW0⟩
 have hbk0:W0.heap[b]?=some (.cells #[.slice none 0 0,.int .i64 0,.int .i8 lr] 151 (0,0)):=by rw[hW0];exact hbk
 have c0:W0.cell? ⟨b,0,none⟩=some (.slice none 0 0):=by rw[mM hbk0];rfl
 have c1:W0.cell? ⟨b,1,none⟩=some (.int .i64 0):=by rw[mM hbk0];rfl
 have f0:W0.frozen? ⟨b,0,none⟩=false:=Lib.frozen_of_heap hbk0 0
 have f1:W0.frozen? ⟨b,1,none⟩=false:=Lib.frozen_of_heap hbk0 1
 have HW0:=ah hW0
 clear hW0 hIs
 go_wp2_with (go_at_call 114;refine(Tryz.Buffer_tryGrow_none b _ 0 0 n _ c0 bW (jf _) (by omega)).mono ?_;rintro e w' ⟨rfl,rfl⟩)
 have hbW:=Lib.lt_of_heap hbk0
 have hwn:IntKind.i64.wrap (n:Int)=n:=by rw[IntKind.wrap_i64];omega
 go_region_with (
  go_at_call 135
  refine(bytes_growSlice_nil n _ hn hlim).mono ?_
  rintro e w2 ⟨cap2,cells,rfl,hN,hcsz,hcap2,hcm2,hbel⟩
  have hbk2:w2.heap[b]?=some (.cells #[.slice none 0 0,.int .i64 0,.int .i8 lr] 151 (0,0)):=(hbel.block b hbW).trans hbk0
  have d0:w2.cell? ⟨b,0,none⟩=some (.slice none 0 0):=by rw[mM hbk2];rfl
  have d1:w2.cell? ⟨b,1,none⟩=some (.int .i64 0):=by rw[mM hbk2];rfl
  have e0:w2.frozen? ⟨b,0,none⟩=false:=Lib.frozen_of_heap hbk2 0
  have e1:w2.frozen? ⟨b,1,none⟩=false:=Lib.frozen_of_heap hbk2 1)
 all_goals (
  go_wp2
  go_ret
  have hsz0:w'.heap.size=w.heap.size:=by rw[HW0.o];rfl
  have hb0:Below B w w'.drew:=by rw[HW0.o];exact⟨rfl,rfl,rfl,bW,fun _ _=>rfl⟩
  have hg2:w.grownBy w2 (some b):=Lib.grownBy_below (w:=w'.drew) (by rw[HW0.o];exact⟨rfl,rfl,rfl,bW,fun _ _ _=>rfl⟩) hbel
  obtain⟨xs,q1,q2,q3⟩:=Lib.grow_end (l:=0) (n:=n) (bs:=[]) hB hbk2 hN (by show B≤w'.heap.size;omega) (by show w'.heap.size≠b;omega) hcsz (by simp) (by omega) hcm2 (hb0.trans (hbel.mono (by show B≤w'.heap.size;omega))) _
  refine⟨rfl,⟨xs,q1,by simpa using q2⟩,by simpa using q3,Lib.grownBy_setB (Lib.grownBy_setB (Lib.grownBy_setB hg2 0 _) 1 _) 0 _,fun k hk=>?_⟩
  have:=hk.of (Joins.block_setCell (Joins.block_setCell (Joins.block_setCell hbk2 (i:=0) _) (i:=1) _) (i:=0) _)
  have hsz:w'.drew.heap.size=w'.heap.size:=rfl
  omega)
theorem abt (B b g l cap n:Nat) (lr:Int) (cur:Array Value) (bs:List Value) (w:World) (hB:B≤b) (hBw:B≤w.heap.size) (hbk:w.heap[b]?=some (.cells #[.slice (some ⟨g,0,none⟩) l cap,.int .i64 0,.int .i8 lr] 151 (0,0))) (hl:bs.length=l) (hBg:B≤g) (hg:w.heap[g]?=some (.cells cur 5 (0,0))) (hlc:l≤cap) (hcm:cap≤maxLen) (hcs:cur.size=cap) (htake:cur.toList.take l=bs) (hgb:g≠b) (h1:∀v∈bs,v.oneCell'=true) (hn:1≤n) (hroom:cap-l<n) (hlim:l+n≤140737488355328) (hl0:l≠0) :
  Calls prog 115 #[.pointer (some ⟨b,0,none⟩),.int .i64 n] w (N7 B b l n bs w):=by
 have hIs:Lib.IsBuffer 151 5 B b bs w:=⟨hB,_,_,hbk,⟨by rw[hl,Nat.mul_one],.inr ⟨g,cap,cur,by rw[hl],hBg,hg,by omega,hcm,by omega,by rw[hl,Nat.mul_one];exact htake⟩⟩,by simp[Value.ownBlock];exact hgb⟩
 have hnil:∀W,(binOp .eql 65 (.slice (some ⟨g,0,none⟩) l cap) (.slice none 0 0)).run prog W=.ok (.bool false) W:=fun W=>Lib.run_eql_slice_some_nil W _ _ _ underlying65
 go_enter func115,ntmps115
 go_wp2_with (go_at_call 134;refine(Tryz.Buffer_Len B b bs _ hIs).mono ?_)
 rintro e W0 ⟨rfl,k,hW0⟩
 rw[hl]
 have hbk0:W0.heap[b]?=some (.cells #[.slice (some ⟨g,0,none⟩) l cap,.int .i64 0,.int .i8 lr] 151 (0,0)):=by rw[hW0];exact hbk
 have c0:W0.cell? ⟨b,0,none⟩=some (.slice (some ⟨g,0,none⟩) l cap):=by rw[mM hbk0];rfl
 have c1:W0.cell? ⟨b,1,none⟩=some (.int .i64 0):=by rw[mM hbk0];rfl
 have f0:W0.frozen? ⟨b,0,none⟩=false:=Lib.frozen_of_heap hbk0 0
 have f1:W0.frozen? ⟨b,1,none⟩=false:=Lib.frozen_of_heap hbk0 1
 have HW0:=ah hW0
 clear hW0 hIs
 have hg0:W0.heap[g]?=some (.cells cur 5 (0,0)):=by rw[HW0.o];exact hg
 have hcm':=hcm
 unfold maxLen at hcm'
 go_wp2_with (go_at_call 114;refine(Tryz.Buffer_tryGrow_none b _ l cap n _ c0 hlc hcm hroom).mono ?_;rintro e w' ⟨rfl,rfl⟩)
 have hc2:cap≤140737488355328:=by omega
 have h1':∀v∈cur.toList.take l,v.oneCell'=true:=by rw[htake];exact h1
 have hbW:=Lib.lt_of_heap hbk0
 have hwn:IntKind.i64.wrap (n:Int)=n:=by rw[IntKind.wrap_i64];omega
 go_region_with (
  go_at_call 135
  refine(bytes_growSlice_row g l cap n cur _ ?_ hcs hlc hn hlim hc2 h1').mono ?_
  exact hg0
  rintro e w2 ⟨cap2,cells,rfl,hN,hcsz,htk,hcap2,hcm2,hbel⟩
  have hbk2:w2.heap[b]?=some (.cells #[.slice (some ⟨g,0,none⟩) l cap,.int .i64 0,.int .i8 lr] 151 (0,0)):=(hbel.block b hbW).trans hbk0
  have d0:w2.cell? ⟨b,0,none⟩=some (.slice (some ⟨g,0,none⟩) l cap):=by rw[mM hbk2];rfl
  have d1:w2.cell? ⟨b,1,none⟩=some (.int .i64 0):=by rw[mM hbk2];rfl
  have e0:w2.frozen? ⟨b,0,none⟩=false:=Lib.frozen_of_heap hbk2 0
  have e1:w2.frozen? ⟨b,1,none⟩=false:=Lib.frozen_of_heap hbk2 1)
 all_goals (
  go_wp2
  go_ret
  have hsz0:w'.heap.size=w.heap.size:=by rw[HW0.o];rfl
  have hb0:Below B w w'.drew:=by rw[HW0.o];exact⟨rfl,rfl,rfl,bW,fun _ _=>rfl⟩
  have hg2:w.grownBy w2 (some b):=Lib.grownBy_below (w:=w'.drew) (by rw[HW0.o];exact⟨rfl,rfl,rfl,bW,fun _ _ _=>rfl⟩) hbel
  obtain⟨xs,q1,q2,q3⟩:=Lib.grow_end (l:=l) (n:=n) hB hbk2 hN (by show B≤w'.heap.size;omega) (by show w'.heap.size≠b;omega) hcsz (htk.trans htake) hcap2 hcm2 (hb0.trans (hbel.mono (by show B≤w'.heap.size;omega))) _
  refine⟨rfl,⟨xs,q1,by simpa using q2⟩,by simpa using q3,Lib.grownBy_setB (Lib.grownBy_setB (Lib.grownBy_setB hg2 0 _) 1 _) 0 _,fun k hk=>?_⟩
  have:=hk.of (Joins.block_setCell (Joins.block_setCell (Joins.block_setCell hbk2 (i:=0) _) (i:=1) _) (i:=0) _)
  have hsz:w'.drew.heap.size=w'.heap.size:=rfl
  omega)
theorem Yl (B b g cap n:Nat) (lr:Int) (cur:Array Value) (bs:List Value) (w:World) (hB:B≤b) (hBw:B≤w.heap.size) (hbk:w.heap[b]?=some (.cells #[.slice (some ⟨g,0,none⟩) 0 cap,.int .i64 0,.int .i8 lr] 151 (0,0))) (hl:bs.length=0) (hBg:B≤g) (hg:w.heap[g]?=some (.cells cur 5 (0,0))) (hlc:0≤cap) (hcm:cap≤maxLen) (hcs:cur.size=cap) (htake:cur.toList.take 0=bs) (hgb:g≠b) (h1:∀v∈bs,v.oneCell'=true) (hn:1≤n) (hroom:cap-0<n) (hlim:0+n≤140737488355328) :
  Calls prog 115 #[.pointer (some ⟨b,0,none⟩),.int .i64 n] w (N7 B b 0 n bs w):=by
 have hIs:Lib.IsBuffer 151 5 B b bs w:=⟨hB,_,_,hbk,⟨by rw[hl,Nat.mul_one],.inr ⟨g,cap,cur,by rw[hl],hBg,hg,by omega,hcm,by omega,by rw[hl,Nat.mul_one];exact htake⟩⟩,by simp[Value.ownBlock];exact hgb⟩
 have hnil:∀W,(binOp .eql 65 (.slice (some ⟨g,0,none⟩) 0 cap) (.slice none 0 0)).run prog W=.ok (.bool false) W:=fun W=>Lib.run_eql_slice_some_nil W _ _ _ underlying65
 go_enter func115,ntmps115
 go_wp2_with (go_at_call 134;refine(Tryz.Buffer_Len B b bs _ hIs).mono ?_)
 rintro e W0 ⟨rfl,k,hW0⟩
 rw[hl]
 have hbk0:W0.heap[b]?=some (.cells #[.slice (some ⟨g,0,none⟩) 0 cap,.int .i64 0,.int .i8 lr] 151 (0,0)):=by rw[hW0];exact hbk
 have c0:W0.cell? ⟨b,0,none⟩=some (.slice (some ⟨g,0,none⟩) 0 cap):=by rw[mM hbk0];rfl
 have c1:W0.cell? ⟨b,1,none⟩=some (.int .i64 0):=by rw[mM hbk0];rfl
 have f0:W0.frozen? ⟨b,0,none⟩=false:=Lib.frozen_of_heap hbk0 0
 have f1:W0.frozen? ⟨b,1,none⟩=false:=Lib.frozen_of_heap hbk0 1
 have HW0:=ah hW0
 clear hW0 hIs
 have hg0:W0.heap[g]?=some (.cells cur 5 (0,0)):=by rw[HW0.o];exact hg
 have hcm':=hcm
 unfold maxLen at hcm'
 go_wp2_with (go_at_call 114;refine(Tryz.Buffer_tryGrow_none b _ 0 cap n _ c0 hlc hcm hroom).mono ?_;rintro e w' ⟨rfl,rfl⟩)
 have hc2:cap≤140737488355328:=by omega
 have h1':∀v∈cur.toList.take 0,v.oneCell'=true:=by rw[htake];exact h1
 have hbW:=Lib.lt_of_heap hbk0
 have hwn:IntKind.i64.wrap (n:Int)=n:=by rw[IntKind.wrap_i64];omega
 go_region_with (
  go_at_call 135
  refine(bytes_growSlice_row g 0 cap n cur _ ?_ hcs hlc hn hlim hc2 h1').mono ?_
  exact hg0
  rintro e w2 ⟨cap2,cells,rfl,hN,hcsz,htk,hcap2,hcm2,hbel⟩
  have hbk2:w2.heap[b]?=some (.cells #[.slice (some ⟨g,0,none⟩) 0 cap,.int .i64 0,.int .i8 lr] 151 (0,0)):=(hbel.block b hbW).trans hbk0
  have d0:w2.cell? ⟨b,0,none⟩=some (.slice (some ⟨g,0,none⟩) 0 cap):=by rw[mM hbk2];rfl
  have d1:w2.cell? ⟨b,1,none⟩=some (.int .i64 0):=by rw[mM hbk2];rfl
  have e0:w2.frozen? ⟨b,0,none⟩=false:=Lib.frozen_of_heap hbk2 0
  have e1:w2.frozen? ⟨b,1,none⟩=false:=Lib.frozen_of_heap hbk2 1)
 all_goals (
  go_wp2
  go_ret
  have hsz0:w'.heap.size=w.heap.size:=by rw[HW0.o];rfl
  have hb0:Below B w w'.drew:=by rw[HW0.o];exact⟨rfl,rfl,rfl,bW,fun _ _=>rfl⟩
  have hg2:w.grownBy w2 (some b):=Lib.grownBy_below (w:=w'.drew) (by rw[HW0.o];exact⟨rfl,rfl,rfl,bW,fun _ _ _=>rfl⟩) hbel
  obtain⟨xs,q1,q2,q3⟩:=Lib.grow_end (l:=0) (n:=n) hB hbk2 hN (by show B≤w'.heap.size;omega) (by show w'.heap.size≠b;omega) hcsz (htk.trans htake) hcap2 hcm2 (hb0.trans (hbel.mono (by show B≤w'.heap.size;omega))) _
  refine⟨rfl,⟨xs,q1,by simpa using q2⟩,by simpa using q3,Lib.grownBy_setB (Lib.grownBy_setB (Lib.grownBy_setB hg2 0 _) 1 _) 0 _,fun k hk=>?_⟩
  have:=hk.of (Joins.block_setCell (Joins.block_setCell (Joins.block_setCell hbk2 (i:=0) _) (i:=1) _) (i:=0) _)
  have hsz:w'.drew.heap.size=w'.heap.size:=rfl
  omega)
theorem abq (B b n:Nat) (bs:List Value) (w:World) (h:Lib.IsBuffer 151 5 B b bs w) (hnr:Lib.NoRoom b n w) (hBw:B≤w.heap.size) (h1:∀v∈bs,v.oneCell'=true) (hlim:bs.length+n≤140737488355328) (hn:1≤n) :
  Calls prog 115 #[.pointer (some ⟨b,0,none⟩),.int .i64 n] w (N7 B b bs.length n bs w):=by
 obtain⟨hB,lr,hc⟩:=h.cases
 rcases hc with ⟨rfl,hbk⟩|⟨g,cap,cur,hbk,hBg,hg,hnc,hcm,hcs,htk,hgb⟩
 ·by_cases h64:n≤64
  ·exact Sj B b n lr w hB hBw hbk hn h64
  ·exact abr B b n lr w hB hBw hbk (by omega) (by simpa using hlim)
 ·have hroom:cap-bs.length<n:=by
   obtain⟨a,l,c,hh,hlt⟩:=hnr
   have:w.cell? ⟨b,0,none⟩=some (.slice (some ⟨g,0,none⟩) bs.length cap):=by rw[mM hbk];rfl
   rw[this]at hh
   simp at hh
   omega
  by_cases hl0:bs.length=0
  ·have e:bs=[]:=List.length_eq_zero_iff.1 hl0
   subst e
   exact Yl B b g cap n lr cur [] w hB hBw hbk rfl hBg hg (jf _) hcm hcs htk hgb h1 hn hroom hlim
  ·exact abt B b g bs.length cap n lr cur bs w hB hBw hbk rfl hBg hg hnc hcm hcs htk hgb h1 hn hroom hlim hl0
def Rw (b:Nat) (w w':World):Prop:=w.heap.size≤w'.heap.size∧∀k,(k<w.heap.size→k≠b→¬fG b k w→w'.heap[k]?=w.heap[k]?)∧(fG b k w'→fG b k w∨w.heap.size≤k)
theorem Rw.trans {b:Nat} {a w w':World} (h:Rw b a w) (h':Rw b w w'):Rw b a w':=by
 refine⟨Nat.le_trans h.1 h'.1,fun k=>⟨fun h1 h2 h3=>?_,fun ho=>?_⟩⟩
 ·refine((h'.2 k).1 (Nat.lt_of_lt_of_le h1 h.1) h2 (fun ho=>?_)).trans ((h.2 k).1 h1 h2 h3)
  rcases (h.2 k).2 ho with h4|h4
  ·exact h3 h4
  ·omega
 ·rcases (h'.2 k).2 ho with h4|h4
  ·exact(h.2 k).2 h4
  ·exact .inr (Nat.le_trans h.1 h4)
theorem Rw.agi {b i:Nat} {w:World} {v:Value} (h:∀k,fG b k (w.setCell ⟨b,i,none⟩ v)→fG b k w):Rw b w (w.setCell ⟨b,i,none⟩ v) :=
 ⟨by simp[World.setCell],fun k=>⟨fun h1 h2 _=>ku _ _ _ _ h2,fun ho=>.inl (h k ho)⟩⟩
theorem Rw.setRow {b g:Nat} {w0 w:World} (h:Rw b w0 w) (hg:fG b g w) (hgb:g≠b) (Y:Array Value):Rw b w0 (w.setRow g Y):=by
 refine⟨by simpa using h.1,fun k=>⟨fun h1 h2 h3=>?_,fun ho=>?_⟩⟩
 ·have hkg:k≠g:=by
   rintro rfl
   rcases (h.2 k).2 hg with h4|h4
   ·exact h3 h4
   ·omega
  exact(setRow_other _ _ _ _ hkg).trans ((h.2 k).1 h1 h2 h3)
 ·exact(h.2 k).2 (ho.keep (setRow_other _ _ _ _ (fun e=>hgb e.symm)))
theorem Rw.grown {b:Nat} {w w':World} (h:w.grownBy w' (some b)) (hn:∀k,fG b k w'→w.heap.size≤k):Rw b w w' :=
 ⟨h.size,fun k=>⟨fun h1 h2 _=>h.block k h1 (by simpa using h2),fun ho=>.inr (hn k ho)⟩⟩
def Ko (B b n:Nat) (bs cs:List Value) (w:World) (e:Ending) (w':World):Prop :=
 e=.returned (.tuple #[.int .i64 n,.nilIface])∧Lib.IsBuffer 151 5 B b (bs++cs) w'∧Below B w w'∧Rw b w w'
theorem I_:(prog.info? 5).map (·.size)=some 1:=by
 obtain⟨i0,hi,-,hz1,-⟩:=info_parts uI.i5
 change prog.info? 5=some i0 at hi
 rw[hi];simp[hz1]
theorem WW {b:Nat} {v:Value} {lr:Int} {w:World} (hbk:w.heap[b]?=some (.cells #[v,.int .i64 0,.int .i8 lr] 151 (0,0))) (x:Int):Rw b w (w.setCell ⟨b,2,none⟩ (.int .i8 x)):=by
 refine Rw.agi (fun k ho=>?_)
 have h1:=Joins.block_setCell hbk (i:=2) (.int .i8 x)
 obtain⟨o1,l1,c1,x1,y1,t1,f1,h⟩:=ho
 rw[h1]at h
 simp at h
 exact⟨o1,l1,c1,.int .i64 0,.int .i8 lr,151,(0,0),by rw[hbk,h.1.1]⟩
theorem aki (B b:Nat) (bs:List Value) (a:Addr) (c:Nat) (w:World) (h:Lib.IsBuffer 151 5 B b bs w) :
  Calls prog 262 #[.pointer (some ⟨b,0,none⟩),.slice (some a) 0 c] w (Ko B b 0 bs [] w):=by
 obtain⟨hB,lr,hc⟩:=h.cases
 obtain⟨A,l,cap,hbk,hlc,hcm⟩:∃A l cap,w.heap[b]?=some (.cells #[.slice A l cap,.int .i64 0,.int .i8 lr] 151 (0,0))∧l≤cap∧cap≤maxLen:=by
  rcases hc with ⟨rfl,hbk⟩|⟨g,cap,cur,hbk,hBg,hg,hnc,hcm,-⟩
  ·exact⟨_,_,_,hbk,bW,jf _⟩
  ·exact⟨_,_,_,hbk,hnc,hcm⟩
 clear hc
 have c2:w.cell? ⟨b,2,none⟩=some (.int .i8 lr):=by rw[mM hbk];rfl
 have f2:w.frozen? ⟨b,2,none⟩=false:=Lib.frozen_of_heap hbk 2
 have h':=h.setLast 0
 have hw1:=Joins.block_setCell hbk (i:=2) (.int .i8 0)
 have d0:(w.setCell ⟨b,2,none⟩ (.int .i8 0)).cell? ⟨b,0,none⟩=some (.slice A l cap):=by rw[mM hw1];rfl
 have g0:(w.setCell ⟨b,2,none⟩ (.int .i8 0)).frozen? ⟨b,0,none⟩=false:=Lib.frozen_of_heap hw1 0
 have hw2:=Joins.block_setCell hw1 (i:=0) (.slice A l cap)
 have hR:=WW hbk 0
 have H:=ah (⟨h',hw1,hw2,hR⟩:_∧_∧_∧_)
 have hcm2:=hcm
 unfold maxLen at hcm2
 have hce:∀d dLen dCap W,(Builtin.copy_ #[65,65] 3 #[.slice d dLen dCap,.slice (some a) 0 c]).run prog W=.ok (goInt 0) W:=fun d dLen dCap W=>run_copy_none W 65 65 3 5 d (some a) dLen dCap 0 c underlying65 I_ (by simp)
 clear h h' hw1 hw2 hR
 go_enter func262,ntmps262
 go_wp2_with (go_at_call 114;refine(Tryz.Buffer_tryGrow_room b A l cap 0 _ d0 g0 hlc hcm (jf _)).mono ?_)
 rintro e w' ⟨rfl,hw'⟩
 rw[Nat.add_zero]at hw'
 have e0:w'.cell? ⟨b,0,none⟩=some (.slice A l cap):=by rw[hw',mM H.o.2.2.1];rfl
 have HW:=ah hw'
 have FIN:Ko B b 0 bs [] w (.returned (.tuple #[.int .i64 (0:Nat),.nilIface])) w':=by
  obtain⟨h',hw1,hw2,hR⟩:=H.o
  have hsame:∀k,w'.heap[k]?=(w.setCell ⟨b,2,none⟩ (.int .i8 0)).heap[k]?:=fun k=>by
   rw[HW.o]
   by_cases hk:k=b
   ·subst hk;exact hw2.trans hw1.symm
   ·exact ku _ _ _ _ hk
  have hsz:w'.heap.size=w.heap.size:=by rw[HW.o];simp[World.setCell]
  refine⟨rfl,?_,?_,?_⟩
  ·rw[List.append_nil]
   obtain⟨q1,v,lr2,q2,q3,q4⟩:=h'
   rw[hw1]at q2
   have e1:v=.slice A l cap:=by simp at q2;exact q2.1.symm
   refine⟨q1,v,0,by rw[e1,hsame];exact hw1,⟨q3.1,?_⟩,q4⟩
   rcases q3.2 with hn|⟨g3,cap3,ahX,hv3,h0,hg3,rest⟩
   ·exact .inl hn
   ·exact .inr ⟨g3,cap3,ahX,hv3,h0,(hsame g3).trans hg3,rest⟩
  ·refine((Below.refl B w).setCell (p:=⟨b,2,none⟩) hB (.int .i8 0)).trans ?_
   rw[HW.o]
   exact(Below.refl B _).setCell (p:=⟨b,0,none⟩) hB _
  ·exact hR.trans ⟨by rw[hsz];simp[World.setCell],fun k=>⟨fun _ _ _=>hsame k,fun ho=>.inl (ho.keep (hsame b))⟩⟩
 have FIN:=ah FIN
 clear hw' c2 f2 d0 g0 HW H
 go_wp2
 all_goals (
  go_ret2
  exact FIN.o)
theorem akj (B b:Nat) (bs cs:List Value) (a:Addr) (n c:Nat) (w:World) (h:Lib.IsBuffer 151 5 B b bs w) (hBw:B≤w.heap.size) (h1:∀v∈bs,v.oneCell'=true)
  (hn:cs.length=n) (hs0:n≠0) (hab:a.block≠b) (hsrc:∀j v,cs[j]?=some v→w.cell? (a.add j)=some v) (h1c:∀v∈cs,v.oneCell'=true) (hlim:bs.length+n≤140737488355328) :
  Calls prog 262 #[.pointer (some ⟨b,0,none⟩),.slice (some a) n c] w (Ko B b n bs cs w):=by
 obtain⟨hB,v0,lr,hbk,-,-⟩:=id h
 have c2:w.cell? ⟨b,2,none⟩=some (.int .i8 lr):=by rw[mM hbk];rfl
 have f2:w.frozen? ⟨b,2,none⟩=false:=Lib.frozen_of_heap hbk 2
 have h':=h.setLast 0
 have hbel0:Below B w (w.setCell ⟨b,2,none⟩ (.int .i8 0)):=(Below.refl B w).setCell (p:=⟨b,2,none⟩) hB _
 have hr0:=WW hbk 0
 have hg0:w.grownBy (w.setCell ⟨b,2,none⟩ (.int .i8 0)) (some b):=Lib.grownBy_setCell w b 2 _
 have hBw':B≤(w.setCell ⟨b,2,none⟩ (.int .i8 0)).heap.size:=by simpa[World.setCell]using hBw
 clear hbk v0
 have hinfo:=I_
 have fin:∀(W1:World) (xs:List Value),xs.length=n→Lib.IsBuffer 151 5 B b (bs++xs) W1→Below B w W1→Rw b w W1→w.grownBy W1 (some b) →
   ∃(g cap:Nat) (cur:Array Value),(cap≤140737488355328*65536∧¬cap=bs.length∧bs.length+n≤cap)∧W1.cell? ⟨b,0,none⟩=some (.slice (some ⟨g,0,none⟩) (bs.length+n) cap) ∧
   (Builtin.copy_ #[65,65] 3 #[.slice (some ⟨g,bs.length,none⟩) n (cap-bs.length),.slice (some a) n c]).run prog W1=.ok (goInt n) (W1.setRow g (cur.toList.take bs.length++cs++cur.toList.drop (bs.length+n)).toArray) ∧
   Lib.IsBuffer 151 5 B b (bs++cs) (W1.setRow g (cur.toList.take bs.length++cs++cur.toList.drop (bs.length+n)).toArray)∧Below B w (W1.setRow g (cur.toList.take bs.length++cs++cur.toList.drop (bs.length+n)).toArray)∧Rw b w (W1.setRow g (cur.toList.take bs.length++cs++cur.toList.drop (bs.length+n)).toArray):=by
  intro W1 xs hxl hI hbel hR hgW
  obtain⟨-,lr2,hc⟩:=hI.cases
  rcases hc with ⟨hnil,-⟩|⟨g,cap,cur,hbk2,hBg,hg,hnc,hcm,hcs,htk,hgb⟩
  ·exact absurd (congrArg List.length hnil) (by rw[dY,hxl,kW];omega)
  ·rw[dY,hxl]at hbk2 hnc htk
   have d0:W1.cell? ⟨b,0,none⟩=some (.slice (some ⟨g,0,none⟩) (bs.length+n) cap):=by rw[mM hbk2];rfl
   have hsrc1:∀j v,cs[j]?=some v→W1.cell? (a.add j)=some v:=fun j v hj=>hgW.cell (hsrc j v hj) (by rw[Lib.block_add];exact fun e=>hab (dU e))
   have hcp:=run_copy_row (P:=prog) W1 65 65 3 5 g bs.length n (cap-bs.length) a n c cur 5 cs underlying65 hinfo hg (by rw[hn];exact(Nat.min_self n).symm) hsrc1 (by rw[hn];omega) h1c
   rw[hn]at hcp
   obtain⟨r1,r2⟩:=Lib.written_end (news:=cs) (l:=bs.length) hB (by rw[hn];exact hbk2) hBg hg hcm hcs hgb (by rw[hn];exact hnc)
   have e1:cur.toList.take bs.length=bs:=by
    have h3:=congrArg (List.take bs.length) htk
    rwa [List.take_take,Nat.min_eq_left (Nat.le_add_right _ _),List.take_left' rfl]at h3
   rw[hn]at r1 r2
   have hcm':=hcm
   unfold maxLen at hcm'
   refine⟨g,cap,cur,⟨by omega,by omega,by omega⟩,d0,hcp,by rw[e1]at r1 ⊢;exact r1,hbel.trans r2,hR.setRow ⟨_,_,_,_,_,_,_,hbk2⟩ hgb _⟩
 have FIN:=ah fin
 clear fin
 go_enter func262,ntmps262
 by_cases hroom:Lib.NoRoom b n (w.setCell ⟨b,2,none⟩ (.int .i8 0))
 ·obtain⟨A,l,cap,hcc,hlt⟩:=id hroom
  obtain⟨-,lr1,hc⟩:=h'.cases
  have hb3:l≤cap∧cap≤maxLen:=by
   rcases hc with ⟨rfl,hbk⟩|⟨g,cap2,cur,hbk,hBg,hg,hnc,hcm,-⟩
   ·rw[mM hbk]at hcc;simp at hcc;obtain⟨-,rfl,rfl⟩:=hcc;exact⟨bW,jf _⟩
   ·rw[mM hbk]at hcc;simp at hcc;obtain⟨-,rfl,rfl⟩:=hcc;exact⟨hnc,hcm⟩
  clear hc
  go_wp2_with (first
   |(go_at_call 114;refine gU (Tryz.Buffer_tryGrow_none b A l cap n _ hcc hb3.1 hb3.2 hlt) ?_)
   |(go_at_call 115;refine(abq B b n bs _ h' hroom hBw' h1 hlim (by omega)).mono ?_))
  rintro e W1 ⟨rfl,⟨xs,hxl,hI⟩,hbel,hgr,hnew⟩
  obtain⟨g,cap2,cur,⟨q1,q2,q3⟩,d0,hcp,r1,r2,r3⟩:=FIN.o W1 xs hxl hI (hbel0.trans hbel) (hr0.trans (Rw.grown hgr hnew)) (Lib.grownBy_trans hg0 hgr)
  have HR:=ah (And.intro r1 (And.intro r2 r3))
  clear hI hbel hgr hnew r1 r2 r3 c2 f2 hcc
  go_wp2
  go_ret2
  exact⟨rfl,by rw[←ni];exact HR.o⟩
 ·obtain⟨-,lr1,hc⟩:=h'.cases
  obtain⟨A,cap,hbk,hle,hcm⟩:∃A cap,(w.setCell ⟨b,2,none⟩ (.int .i8 0)).heap[b]?=some (.cells #[.slice A bs.length cap,.int .i64 0,.int .i8 lr1] 151 (0,0))∧bs.length≤cap∧cap≤maxLen:=by
   rcases hc with ⟨rfl,hbk⟩|⟨g,cap2,cur,hbk,hBg,hg,hnc,hcm,-⟩
   ·exact⟨_,_,hbk,bW,jf _⟩
   ·exact⟨_,_,hbk,hnc,hcm⟩
  have d0:(w.setCell ⟨b,2,none⟩ (.int .i8 0)).cell? ⟨b,0,none⟩=some (.slice A bs.length cap):=by rw[mM hbk];rfl
  have g0:(w.setCell ⟨b,2,none⟩ (.int .i8 0)).frozen? ⟨b,0,none⟩=false:=Lib.frozen_of_heap hbk 0
  have hfit:n≤cap-bs.length:=by
   rcases Nat.lt_or_ge (cap-bs.length) n with hlt|hge
   ·exact absurd ⟨A,_,cap,d0,hlt⟩ hroom
   ·exact hge
  have hres:∃xs,xs.length=n∧Lib.IsBuffer 151 5 B b (bs++xs) ((w.setCell ⟨b,2,none⟩ (.int .i8 0)).setCell ⟨b,0,none⟩ (.slice A (bs.length+n) cap))∧Below B w ((w.setCell ⟨b,2,none⟩ (.int .i8 0)).setCell ⟨b,0,none⟩ (.slice A (bs.length+n) cap)):=by
   rcases hc with ⟨rfl,hbk1⟩|⟨g,cap2,cur,hbk1,hBg,hg,hnc,hcm1,hcs1,aqT,aqE⟩
   ·rw[hbk]at hbk1;simp at hbk1;simp at hfit;omega
   ·rw[hbk]at hbk1
    simp at hbk1
    obtain⟨rfl,rfl⟩:=hbk1
    obtain⟨xs,q1,q2,q3⟩:=Lib.room_end (n:=n) hB hbk hBg hg hcm hcs1 aqT aqE (by omega)
    exact⟨xs,q1,q2,hbel0.trans q3⟩
  obtain⟨xs,hxl,hI,hbel⟩:=hres
  have hRW:Rw b w ((w.setCell ⟨b,2,none⟩ (.int .i8 0)).setCell ⟨b,0,none⟩ (.slice A (bs.length+n) cap)):=by
   refine hr0.trans (Rw.agi (fun k ho=>?_))
   have hb2:=Joins.block_setCell hbk (i:=0) (.slice A (bs.length+n) cap)
   obtain⟨o1,l1,c1,x1,y1,t1,f1,h⟩:=ho
   rw[hb2]at h
   simp at h
   obtain⟨⟨⟨hA,-⟩,-⟩,-⟩:=h
   exact⟨o1,bs.length,cap,.int .i64 0,.int .i8 lr1,151,(0,0),by rw[hbk,hA]⟩
  obtain⟨g,cap2,cur,⟨q1,q2,q3⟩,d1,hcp,r1,r2,r3⟩:=FIN.o _ xs hxl hI hbel hRW (Lib.grownBy_trans hg0 (Lib.grownBy_setCell _ b 0 _))
  have HR:=ah (And.intro r1 (And.intro r2 r3))
  have HT:=ah (Tryz.Buffer_tryGrow_room b A bs.length cap n _ d0 g0 hle hcm hfit)
  generalize hW2:(w.setCell ⟨b,2,none⟩ (.int .i8 0)).setCell ⟨b,0,none⟩ (.slice A (bs.length+n) cap)=W2 at d1 hcp HR HT
  clear hI hbel hRW r1 r2 r3 d0 g0 hc hW2
  go_wp2_with (go_at_call 114;refine HT.o.mono ?_)
  rintro e w' ⟨rfl,rfl⟩
  clear c2 f2
  go_wp2
  go_ret2
  exact⟨rfl,by rw[←ni];exact HR.o⟩
theorem adC (B b:Nat) (bs cs:List Value) (a:Addr) (n c:Nat) (w:World) (h:Lib.IsBuffer 151 5 B b bs w) (hBw:B≤w.heap.size) (h1:∀v∈bs,v.oneCell'=true)
  (hn:cs.length=n) (hab:a.block≠b) (hsrc:∀j v,cs[j]?=some v→w.cell? (a.add j)=some v) (h1c:∀v∈cs,v.oneCell'=true) (hlim:bs.length+n≤140737488355328) :
  Calls prog 262 #[.pointer (some ⟨b,0,none⟩),.slice (some a) n c] w (Ko B b n bs cs w):=by
 by_cases hs0:n=0
 ·subst hs0
  have hc0:cs=[]:=List.eq_nil_of_length_eq_zero hn
  subst hc0
  exact aki B b bs a c w h
 ·exact akj B b bs cs a n c w h hBw h1 hn hs0 hab hsrc h1c hlim
section
theorem aak (j x:Nat) (hj:j≤64) (hx:x<2^64):x &&& (2^64-2^j)=x/2^j*2^j:=by
 have e:2^64-2^j=(2^(64-j)-1) <<< j:=by
  rw[Nat.shiftLeft_eq,Nat.sub_mul,←Nat.pow_add,Nat.sub_add_cancel hj,Nat.one_mul]
 have e2:x/2^j*2^j=(x >>> j) <<< j:=by rw[Nat.shiftLeft_eq,Nat.shiftRight_eq_div_pow]
 rw[e,e2]
 apply Nat.eq_of_testBit_eq
 intro i
 rw[Nat.testBit_and,Nat.testBit_shiftLeft,Nat.testBit_shiftLeft,Nat.testBit_two_pow_sub_one,Nat.testBit_shiftRight]
 by_cases h:j≤i
 ·rw[Nat.add_sub_cancel' h]
  by_cases h2:i<64
  ·have:i-j<64-j:=by omega
   simp[h,this]
  ·have:x.testBit i=false:=Nat.testBit_lt_two_pow (Nat.lt_of_lt_of_le hx (Nat.pow_le_pow_right (by decide) (by omega)))
   simp[this]
 ·simp[h]
theorem MK (j x:Nat) (hj:j≤3) (hx:x<2^62) (m:Int) (hm:(BitVec.ofInt 64 m).toNat=2^64-2^j):bits .and .i64 (x:Int) m=((x/2^j*2^j:Nat):Int):=by
 have h:bits .and .i64 (x:Int) m=IntKind.i64.wrap ((BitVec.ofInt 64 (x:Int) &&& BitVec.ofInt 64 m).toNat:Nat):=rfl
 have hle:x/2^j*2^j≤x:=Nat.div_mul_le_self _ _
 rw[h,BitVec.toNat_and,hm,BitVec.ofInt_natCast,BitVec.toNat_ofNat,Nat.mod_eq_of_lt (by omega),aak j x (by omega) (by omega),IntKind.wrap_i64]
 omega
theorem rF (E p o:Nat) (v0 v1 v2:Value) (n:Int) (hn:n=1∨n=2∨n=4∨n=8) (hp:p≤1000000000) (ho:o≤1000000000) (w:World) (h:w.heap[E]?=some (.cells #[v0,v1,v2,.int .i64 p] 220 (0,0))) :
  Calls prog 176 #[.pointer (some ⟨E,0,none⟩),.int .i64 o,.int .i64 n] w fun e w'=>(∃q:Nat,q≤7∧e=.returned (.int .i64 q))∧w'=w:=by
 have c3:=au h 3 (v:=.int .i64 p) rfl
 obtain⟨s,hs⟩:∃s:Nat,s=p+o:=⟨_,rfl⟩
 have hs2:(p:Int)+o=(s:Int):=by omega
 have hm8:bits .and .i64 ((s+7:Nat):Int) (bits .xor .i64 (-1) 7)=(((s+7)/8*8:Nat):Int):=MK 3 (s+7) (by decide) (by omega) _ (by decide)
 have hm4:bits .and .i64 ((s+3:Nat):Int) (bits .xor .i64 (-1) 3)=(((s+3)/4*4:Nat):Int):=MK 2 (s+3) (by decide) (by omega) _ (by decide)
 have hm2:bits .and .i64 ((s+1:Nat):Int) (bits .xor .i64 (-1) 1)=(((s+1)/2*2:Nat):Int):=MK 1 (s+1) (by decide) (by omega) _ (by decide)
 have H8:=ah hm8
 have H4:=ah hm4
 have H2:=ah hm2
 have HS:=ah hs2
 have HSS:=ah hs
 have hpo:s≤2000000000:=by omega
 clear hm8 hm4 hm2 hs2 hs h
 rcases hn with rfl|rfl|rfl|rfl
 ·go_enter func176,ntmps176
  go_wp2
  go_ret
  exact⟨⟨0,by omega,rfl⟩,rfl⟩
 ·by_cases hz:((p:Int)+o)%2=0
  ·go_enter func176,ntmps176
   go_wp2
   go_ret
   exact⟨⟨0,by omega,rfl⟩,rfl⟩
  ·have hw:wrap64 ((((s+1)/2*2:Nat):Int)-(s:Int))=(((s+1)/2*2-s:Nat):Int):=by unfold wrap64;omega
   have HW:=ah hw
   clear hw
   go_enter func176,ntmps176
   go_wp2
   all_goals (
    go_ret
    refine⟨⟨(s+1)/2*2-s,by omega,?_⟩,rfl⟩
    rw[HS.o,show(s:Int)+2-1=((s+1:Nat):Int) by omega,H2.o,HW.o]
    rfl)
 ·by_cases hz:((p:Int)+o)%4=0
  ·go_enter func176,ntmps176
   go_wp2
   go_ret
   exact⟨⟨0,by omega,rfl⟩,rfl⟩
  ·have hw:wrap64 ((((s+3)/4*4:Nat):Int)-(s:Int))=(((s+3)/4*4-s:Nat):Int):=by unfold wrap64;omega
   have HW:=ah hw
   clear hw
   go_enter func176,ntmps176
   go_wp2
   all_goals (
    go_ret
    refine⟨⟨(s+3)/4*4-s,by omega,?_⟩,rfl⟩
    rw[HS.o,show(s:Int)+4-1=((s+3:Nat):Int) by omega,H4.o,HW.o]
    rfl)
 ·by_cases hz:((p:Int)+o)%8=0
  ·go_enter func176,ntmps176
   go_wp2
   go_ret
   exact⟨⟨0,by omega,rfl⟩,rfl⟩
  ·have hw:wrap64 ((((s+7)/8*8:Nat):Int)-(s:Int))=(((s+7)/8*8-s:Nat):Int):=by unfold wrap64;omega
   have HW:=ah hw
   clear hw
   go_enter func176,ntmps176
   go_wp2
   all_goals (
    go_ret
    refine⟨⟨(s+7)/8*8-s,by omega,?_⟩,rfl⟩
    rw[HS.o,show(s:Int)+8-1=((s+7:Nat):Int) by omega,H8.o,HW.o]
    rfl)
structure EF where
 a:Option Addr
 l:Nat
 c:Nat
 k:Nat
structure En (E B:Nat) (F:EF) (M:Nat) (W0 w:World):Prop where
 enc:∃p:Nat,p≤F.k+M∧w.heap[E]?=some (.cells #[.iface 142 (.pointer (some ⟨B,0,none⟩)),(.slice F.a F.l F.c),.iface 160 (.agg #[]),.int .i64 p] 220 (0,0))
 buf:∃l:List UInt8,l.length≤M∧Lib.IsBuffer 151 5 B B (Lib.byteCells l) w
 eX:Below W0.heap.size W0 w
 le:W0.heap.size≤B
 lt:B<E
 kb:F.k≤800000000
structure Fr (E B:Nat) (w w':World):Prop where
 eX:Below B w w'
 oth:∀k o,w.heap[k]?=some o→k≠E→k≠B→(∀c fz,o≠.cells c 5 fz)→w'.heap[k]?=some o
 row:∀k,(k<w.heap.size→k≠E→k≠B→¬fG B k w→w'.heap[k]?=w.heap[k]?)∧(fG B k w'→fG B k w∨w.heap.size≤k)
theorem Fr.refl (E B:Nat) (w:World):Fr E B w w:=⟨jc,fun _ _ h _ _ _=>h,fun k=>⟨fun _ _ _ _=>rfl,.inl⟩⟩
theorem Fr.trans {E B:Nat} {a b c:World} (h:Fr E B a b) (h':Fr E B b c):Fr E B a c :=
 ⟨h.1.trans h'.1,fun k o ho h1 h2 h3=>h'.2 k o (h.2 k o ho h1 h2 h3) h1 h2 h3,fun k=>⟨fun h1 h2 h3 h4=>by
   refine((h'.row k).1 (Nat.lt_of_lt_of_le h1 h.eX.size) h2 h3 (fun ho=>?_)).trans ((h.row k).1 h1 h2 h3 h4)
   rcases (h.row k).2 ho with h5|h5
   ·exact h4 h5
   ·omega,fun ho=>by
   rcases (h'.row k).2 ho with h5|h5
   ·exact(h.row k).2 h5
   ·exact .inr (Nat.le_trans h.eX.size h5)⟩⟩
theorem Fr.below {E B:Nat} {w w':World} (hb:Below w.heap.size w w') (hB:B<w.heap.size):Fr E B w w' :=
 ⟨hb.mono (Nat.le_of_lt hB),fun k o ho _ _ _=>(hb.block k (lt_of_block ho)).trans ho,fun k=>⟨fun h1 _ _ _=>hb.block k h1,fun ho=>.inl (ho.keep (hb.block B hB))⟩⟩
theorem Fr.set {E B:Nat} (hB:B<E) (w:World) (i:Nat) (v:Value):Fr E B w (w.setCell ⟨E,i,none⟩ v) :=
 ⟨(Below.refl B w).setCell (p:=⟨E,i,none⟩) (Nat.le_of_lt hB) v,fun k o ho h1 _ _=>(ku _ _ _ _ h1).trans ho,fun k=>⟨fun _ h1 _ _=>ku _ _ _ _ h1,fun ho=>.inl (ho.keep (ku _ _ _ _ (by show B≠E;omega)))⟩⟩
section
variable {E B M:Nat} {F:EF} {W0 w w':World}
theorem En.old (h:En E B F M W0 w) (hb:Below w.heap.size w w'):En E B F M W0 w':=by
 obtain⟨p,hp,he⟩:=h.enc
 obtain⟨l,hl,hbuf⟩:=h.buf
 exact⟨⟨p,hp,(hb.block _ (lt_of_block he)).trans he⟩,⟨l,hl,hbuf.old hb⟩,h.eX.trans (hb.mono h.eX.size),h.le,h.lt,h.kb⟩
theorem En.mono (h:En E B F M W0 w) {M':Nat} (hm:M≤M'):En E B F M' W0 w:=by
 obtain⟨p,hp,he⟩:=h.enc
 obtain⟨l,hl,hbuf⟩:=h.buf
 exact⟨⟨p,by omega,he⟩,⟨l,by omega,hbuf⟩,h.eX,h.le,h.lt,h.kb⟩
theorem En.size (h:En E B F M W0 w):B<w.heap.size:=by
 obtain⟨l,hl,hB,v,lr,hbk,r⟩:=h.buf
 exact lt_of_block hbk
theorem En.adB (h:En E B F M W0 w) (t:List UInt8) (a:Addr) (n c:Nat) (hn:t.length=n) (hab:a.block≠B) (hsrc:∀j v,(Lib.byteCells t)[j]?=some v→w.cell? (a.add j)=some v) (hM:M+n≤1000000000) :
  Calls prog 262 #[.pointer (some ⟨B,0,none⟩),.slice (some a) n c] w fun e w'=>e=.returned (.tuple #[.int .i64 n,.nilIface])∧En E B F (M+n) W0 w'∧Fr E B w w'∧w'.heap[E]?=w.heap[E]?:=by
 obtain⟨p,hp,he⟩:=h.enc
 obtain⟨l,hl,hbuf⟩:=h.buf
 refine(adC B B (Lib.byteCells l) (Lib.byteCells t) a n c w hbuf (Nat.le_of_lt h.size) (Lib.byteCells_one _) (by rw[Lib.byteCells_length];exact hn) hab hsrc (Lib.byteCells_one _) (by rw[Lib.byteCells_length];omega)).mono ?_
 rintro e w' ⟨rfl,h1,h2,h3⟩
 have hno:∀k o,w.heap[k]?=some o→(∀c fz,o≠.cells c 5 fz)→¬fG B k w:=by
  intro k o ho ht hr
  obtain⟨-,lr,hc⟩:=hbuf.cases
  rcases hc with ⟨-,hbk⟩|⟨g,cap,cur,hbk,-,hg,-⟩
  ·exact hr.nil hbk
  ·have:=hr.of hbk
   subst this
   rw[ho]at hg
   exact ht _ _ (dU hg)
 have hoth:∀k o,w.heap[k]?=some o→k≠B→(∀c fz,o≠.cells c 5 fz)→w'.heap[k]?=some o:=fun k o ho hB ht=>((h3.2 k).1 (lt_of_block ho) hB (hno k o ho ht)).trans ho
 refine⟨rfl,⟨⟨p,by omega,hoth _ _ he (by have:=h.lt;omega) (by simp)⟩,⟨l++t,by rw[dY];omega,by rw[Lib.byteCells_append];exact h1⟩,h.eX.trans (h2.mono h.le),h.le,h.lt,h.kb⟩,⟨h2,fun k o ho _ hB ht=>hoth k o ho hB ht,fun k=>⟨fun a1 _ a3 a4=>(h3.2 k).1 a1 a3 a4,(h3.2 k).2⟩⟩,(hoth _ _ he (by have:=h.lt;omega) (by simp)).trans he.symm⟩
theorem En.write (h:En E B F M W0 w) (t:List UInt8) (a:Addr) (n c:Nat) (hn:t.length=n) (hab:a.block≠B) (hsrc:∀j v,(Lib.byteCells t)[j]?=some v→w.cell? (a.add j)=some v) (hM:M+n≤1000000000) :
  Calls prog 262 #[.pointer (some ⟨B,0,none⟩),.slice (some a) n c] w fun e w'=>e=.returned (.tuple #[.int .i64 n,.nilIface])∧En E B F (M+n) W0 w'∧Fr E B w w' :=
 (h.adB t a n c hn hab hsrc hM).mono fun _ _ h=>⟨h.1,h.2.1,h.2.2.1⟩
theorem En.pos (h:En E B F M W0 w) (q:Nat) {M':Nat} (hM:M≤M') (hq:q≤F.k+M'):En E B F M' W0 (w.setCell ⟨E,3,none⟩ (.int .i64 q)):=by
 obtain⟨p,hp,he⟩:=h.enc
 obtain⟨l,hl,hbuf⟩:=h.buf
 refine⟨⟨q,hq,Joins.block_setCell he _⟩,⟨l,by omega,?_⟩,h.eX.setCell (p:=⟨E,3,none⟩) (by have:=h.le;have:=h.lt;show W0.heap.size≤E;omega) _,h.le,h.lt,h.kb⟩
 obtain⟨hB,v,lr,hbk,hown,hne⟩:=hbuf
 have hEB:B≠E:=by have:=h.lt;omega
 refine⟨hB,v,lr,(ku _ _ _ _ hEB).trans hbk,⟨hown.1,?_⟩,hne⟩
 rcases hown.2 with hn|⟨g,cap,cur,hv,h0,hg,rest⟩
 ·exact .inl hn
 ·refine .inr ⟨g,cap,cur,hv,h0,(ku _ _ _ _ ?_).trans hg,rest⟩
  rintro rfl
  rw[he]at hg
  simp at hg
end
theorem O9:(prog.info? 5).map (fun i=>(i.zero,i.size,i.bytes))=some (some (.int .u8 0),1,1):=by kernel_rfl
theorem lJ (n:Nat) (hn:n≤10000000) (w:World):(Instr.makeSlice 65 (.int .i64 n) (.int .i64 n)).run prog w=.ok (.slice (some ⟨w.heap.size,0,none⟩) n n) (w.alloc (.cells (Lib.byteCells (List.replicate n 0)).toArray 5)):=by
 obtain⟨i0,hi,hzz⟩:=Option.map_eq_some_iff.1 O9
 simp only[Prod.mk.injEq]at hzz
 obtain⟨hz0,hz1,hz2⟩:=hzz
 have h:=run_makeSlice (P:=prog) (w:=w) 65 5 i0 _ underlying65 hi hz0 .i64 .i64 n n (by omega) (Int.le_refl _) (by rw[hz1];simp;omega) (by rw[hz2];omega) (by omega)
 rw[h]
 simp only[Int.toNat_natCast,hz1]
 have e:madeCells (Value.int .u8 0).cells (n*1)=(Lib.byteCells (List.replicate n 0)).toArray:=by
  rw[←Array.toArray_toList (xs:=madeCells _ _),show(Value.int .u8 0).cells=#[.int .u8 0]from rfl,toList_madeCells_one,Nat.mul_one]
  congr 1
  simp[Lib.byteCells]
 rw[e]
end
theorem jC {W:World} {E p:Nat} {o F r:Value} (h:W.heap[E]?=some (.cells #[o,F,r,.int .i64 p] 220 (0,0))) :
  W.cell? ⟨E,0,none⟩=some o∧W.cell? ⟨E,1,none⟩=some F∧W.cell? ⟨E,2,none⟩=some r∧W.cell? ⟨E,3,none⟩=some (.int .i64 p)∧W.frozen? ⟨E,3,none⟩=false∧W.frozen? ⟨E,1,none⟩=false :=
 ⟨au h 0 rfl,au h 1 rfl,au h 2 rfl,au h 3 rfl,aI h 3,aI h 1⟩
theorem ig (v:Value) (w:World):(method 443 142 v "Write").run prog w=.ok (262,v) w:=by kernel_rfl
theorem call262 (a b:Value) (w:World):(callFunc 262 #[a,b]).run prog w=.ok (.enter 262 #[a,b]) w:=by kernel_rfl
theorem agm (w:World) (t:List UInt8) (j:Nat) (v:Value) (h:(Lib.byteCells t)[j]?=some v):(w.alloc (.cells (Lib.byteCells t).toArray 5)).cell? ((⟨w.heap.size,0,none⟩:Addr).add j)=some v:=by
 rw[add_plain]
 have hb:=aV w (.cells (Lib.byteCells t).toArray 5) _ rfl
 exact au hb j (by rw[List.getElem?_toArray];exact h)
theorem fV {E B M:Nat} {F:EF} {W0 w:World} (h:En E B F M W0 w) (n:Int) (hn:n=1∨n=2∨n=4∨n=8) (hM:M≤100000000) :
  Calls prog 143 #[.pointer (some ⟨E,0,none⟩),.int .i64 n] w fun e w'=>e=.returned (.tuple #[])∧En E B F (M+16) W0 w'∧Fr E B w w':=by
 obtain⟨p,hp,he⟩:=h.enc
 have hkb:=h.kb
 have HE:=ah he
 have yC:=ah h
 have PA:=ah (rF E p 0 _ _ _ n hn (by omega) (by omega) w he)
 clear he h
 obtain⟨c0,c1,c2,c3,f3,f1⟩:=jC HE.o
 have hmk:=lJ
 go_enter func143,ntmps143
 go_wp2_with (go_at_call 176;refine PA.o.mono ?_;rintro e w1 ⟨⟨q,hq,rfl⟩,rfl⟩;refine Hid.o ?_)
 refine ah ?_
 by_cases h0:q=0
 ·subst h0
  go_wp2
  go_end0
  exact⟨rfl,yC.o.mono (by omega),Fr.refl _ _ _⟩
 ·have hq0:decide ((0:Int)<(q:Int))=true:=by simp;omega
  have hmq:=hmk q (by omega)
  have ca:∀o,(w1.alloc o).cell? ⟨E,0,none⟩=some (.iface 142 (.pointer (some ⟨B,0,none⟩))):=fun o=>au ((kN w1 o _ (lt_of_block HE.o)).trans HE.o) 0 rfl
  have hme:=ig
  have hca:=call262
  clear hmk c0 c1 c2 c3 f3 f1
  go_wp2_with (go_at_call 262;refine((yC.o.old (gG _)).write (List.replicate q 0) ⟨w1.heap.size,0,none⟩ q q (by simp) (by have:=yC.o.size;simp;omega) (fun j v hj=>agm _ _ j v hj) (by omega)).mono ?_;rintro e w2 ⟨rfl,hen,hfr⟩;refine Hid.o ?_)
  refine ah ?_
  have al1:=hen
  have zu:=ah ((Fr.below (gG _) yC.o.size).trans hfr)
  clear hfr
  clear HE
  obtain⟨p2,hp2,he2⟩:=hen.enc
  obtain⟨c0,c1,c2,c3,f3,f1⟩:=jC he2
  have yx:=ah al1
  clear hen al1 he2 ca
  go_wp2
  go_end0
  refine⟨rfl,?_⟩
  rw[show (p2:Int)+(q:Int)=((p2+q:Nat):Int) by omega]
  exact⟨yx.o.pos (p2+q) (by omega) (by omega),zu.o.trans (Fr.set yx.o.lt _ _ _)⟩
end Go.Proofs.YtllcccekodcdmaaGreatDoor.Ms
