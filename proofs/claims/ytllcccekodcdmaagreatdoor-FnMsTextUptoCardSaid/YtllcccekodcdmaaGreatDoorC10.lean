import Derived.Test.YtllcccekodcdmaaGreatDoorC09
set_option linter.unusedVariables false
set_option linter.unusedSimpArgs false
set_option maxRecDepth 100000
set_option maxHeartbeats 32000000
open Go.Proofs.Tryz
namespace Go.Proofs.YtllcccekodcdmaaGreatDoor.Fl
open Go Go.RowKit Go.Proofs.ak.aT Go.Proofs.YtllcccekodcdmaaGreatDoor.Ms
def lY (m e p mn mx odd:Int):Int×Int :=
 let hi:=oJ (p+348).toNat
 let lo:=oK (p+348).toNat
 let s:=-(e+log2 p+3)
 let dmin:=cei (nud (Zt mn hi lo s) odd)
 let dmax:=flo (nud (Zt mx hi lo s) (-odd))
 if dmin≤dmax/10*10 then(dmax/10,-(p-1))
 else if dmin<dmax then(rou (Zt m hi lo s),-p)else(dmin,-p)
theorem EM (x:Int) (h1:-4611686018427387904≤x) (h2:x≤4611686018427387904):wrap64 x=x:=by unfold wrap64;omega
theorem Xh (e:Int) (h1:-1085<e) (h2:e≤960):-330≤T_ (e+11)∧T_ (e+11)≤300:=by
 unfold T_;rw[EM ((e+11)*631305) (by omega) (by omega),EM _ (by omega) (by omega)];omega
theorem uM (e:Int) (h1:-1100≤e) (h2:e≤1000):-340≤log10 e∧log10 e≤310:=by
 unfold log10;rw[EM _ (by omega) (by omega)];omega
theorem afZ (p:Int) (h1:-400≤p) (h2:p≤400):-2000≤log2 p∧log2 p≤2000:=by
 unfold log2;rw[EM _ (by omega) (by omega)];omega
theorem aaC (u:Int):0≤cei u∧cei u≤4611686018427387903:=by
 unfold cei;rw[IntKind.wrap_u64];omega
theorem aaZ (u:Int):0≤flo u∧flo u≤4611686018427387903:=by
 unfold flo;rw[IntKind.wrap_u64];omega
theorem fJ {B:Nat} {a w:World} (h:Below B a w):∀q,Below B a (w.drewN q)
 |0=>h
 |q+1=>(fJ h q).drew
theorem abP (n:Int):bits .and .i64 n 1=n%2:=by
 have h1:(BitVec.ofInt 64 1).toNat=2^1-1:=by decide
 have key:(BitVec.ofInt 64 n &&& BitVec.ofInt 64 1).toNat=(n%((2^64:Nat):Int)).toNat%2^1:=by
  rw[BitVec.toNat_and,BitVec.toNat_ofInt,h1,Nat.and_two_pow_sub_one_eq_mod]
 show IntKind.i64.wrap ((BitVec.ofInt 64 n &&& BitVec.ofInt 64 1).toNat:Nat)=n%2
 rw[key,IntKind.wrap_i64]
 omega
theorem TF (n:Int):0≤bits .and .i64 n 1∧bits .and .i64 n 1≤1:=by
 rw[abP];omega
abbrev ZY (f:FuncId) (x P:Int):Prop:=∀w,Calls prog f #[.int .i64 x] w fun e' w'=>e'=.returned (.int .i64 P)∧w=w'
abbrev US (w:World) (i:Nat) (S mn u:Int):Prop:=∀x:World,x.cell? ⟨w.heap.size,0,none⟩=some (.int .u64 (oJ i))→x.cell? ⟨w.heap.size,1,none⟩=some (.int .u64 (oK i))→x.cell? ⟨w.heap.size,2,none⟩=some (.int .i64 S)→Calls prog 220 #[.int .u64 mn,.pointer (some ⟨w.heap.size,0,none⟩)] x fun e' w'=>e'=.returned (.int .u64 u)∧∃n,w'=x.drewN n
def agV (val:Bool) (m e P mn mx od no:Int):Prop:=(m==9223372036854775808)=val∧9223372036854775808≤m∧m<18446744073709551616∧e < -1085∧bits .and .i64 (wrap64 (m/2^(11+(-1085-e)).toNat)) 1=od∧(0≤od∧od≤1)∧no=-od∧∃sl:Int,IntKind.u64.wrap (2^((11+(-1085-e)).toNat-1))=sl∧mn=IntKind.u64.wrap (m-sl)∧mx=IntKind.u64.wrap (m+sl)∧ZY 145 (-1074) P
theorem rM (m e P mn mx od no:Int) (hP1:-340≤P) (hP2:P≤310) (hno:-od=no) (he1:-1137≤e) (he2:e≤960) (w:World) (hw:ou w) (hz:18<w.heap.size)
  (hc:(m=9223372036854775808∧-1085<e∧mn=9223372036854775296∧mx=9223372036854776832∧od=0∧no=0∧ZY 217 (e+11) P) ∨
    (9223372036854775808<m∧m<18446744073709551616∧-1085≤e∧bits .and .i64 (m/2048) 1=od∧(0≤od∧od≤1)∧no=-od∧mn=m-1024∧mx=IntKind.u64.wrap (m+1024)∧ZY 145 (e+11) P) ∨
    (m=9223372036854775808∧e=-1085∧mn=9223372036854774784∧mx=9223372036854776832∧od=0∧no=0∧ZY 145 (-1074) P) ∨
    agV true m e P mn mx od no∨agV false m e P mn mx od no) :
  Calls prog 191 #[.int .u64 m,.int .i64 e] w fun e' w'=>e'=.returned (.tuple #[.int .u64 (lY m e (-P) mn mx od).1,.int .i64 (lY m e (-P) mn mx od).2])∧Below w.heap.size w w':=by
 obtain⟨L,hL⟩:∃L,log2 (-P)=L:=⟨_,rfl⟩
 have hLb:=afZ (-P) (by omega) (by omega)
 rw[hL]at hLb
 obtain⟨i,hi⟩:∃i:Nat,-P+348=i:=⟨(-P+348).toNat,by omega⟩
 have hi6:i<696:=by omega
 obtain⟨hL1,hL2⟩:=hLb
 have HI:=ah hi
 have LG:Hid (ZY 219 (-P) L):=ah fun w=>by rw[←hL];exact ach _ _
 have PR:=ah (af9 w.heap.size w.heap.size bW e (-P) L i hi6 hi ⟨by omega,by omega⟩ ⟨by omega,by omega⟩ (w.alloc (.cells #[.int .u64 0,.int .u64 0,.int .i64 0] 295)) (hw.below hz (gG _)) (by omega) ⟨0,0,0,heap_alloc_new w _⟩)
 obtain⟨S,hS⟩:∃S,-(e+L+3)=S:=⟨_,rfl⟩
 rw[hS]at PR
 simp only[lY,Int.neg_neg,hno,hL,hS,show(-P+348).toNat=i by omega]
 have hb1:=aaC (nud (Zt mn (oJ i) (oK i) S) od)
 have hb2:=aaZ (nud (Zt mx (oJ i) (oK i) S) no)
 obtain⟨u1,hu1⟩:∃u1,Zt mn (oJ i) (oK i) S=u1:=⟨_,rfl⟩
 obtain⟨u2,hu2⟩:∃u2,Zt mx (oJ i) (oK i) S=u2:=⟨_,rfl⟩
 obtain⟨u3,hu3⟩:∃u3,Zt m (oJ i) (oK i) S=u3:=⟨_,rfl⟩
 rw[hu1]at hb1
 rw[hu2]at hb2
 rw[hu1,hu2,hu3]
 obtain⟨D1,hD1⟩:∃D1,cei (nud u1 od)=D1:=⟨_,rfl⟩
 obtain⟨D2,hD2⟩:∃D2,flo (nud u2 no)=D2:=⟨_,rfl⟩
 rw[hD1]at hb1
 rw[hD2]at hb2
 rw[hD1,hD2]
 have C1:=ah (fun w=>by rw[←hD1];exact aeo _ _:∀w,Calls prog 222 #[.int .u64 (nud u1 od)] w fun e' w'=>e'=.returned (.int .u64 D1)∧w=w')
 have C2:=ah (fun w=>by rw[←hD2];exact aeE _ _:∀w,Calls prog 223 #[.int .u64 (nud u2 no)] w fun e' w'=>e'=.returned (.int .u64 D2)∧w=w')
 have U1:=ah (fun x c0 c1 c2=>by have:=Nq mn (oJ i) (oK i) S w.heap.size x c0 c1 c2;rwa [hu1]at this:US w i S mn u1)
 have U2:=ah (fun x c0 c1 c2=>by have:=Nq mx (oJ i) (oK i) S w.heap.size x c0 c1 c2;rwa [hu2]at this:US w i S mx u2)
 have U3:=ah (fun x c0 c1 c2=>by have:=Nq m (oJ i) (oK i) S w.heap.size x c0 c1 c2;rwa [hu3]at this:US w i S m u3)
 obtain⟨aty,atz⟩:=hb1
 obtain⟨atA,atB⟩:=hb2
 have hQ1:0≤D2/10:=by omega
 have hQ2:D2/10≤461168601842738791:=by omega
 clear hw hi hL hS hu1 hu2 hu3 hD1 hD2 hno
 have hk:(decide (D1≤D2/10*10)=true∨(decide (D1≤D2/10*10)=false∧decide (D1<D2)=true)∨(decide (D1≤D2/10*10)=false∧decide (D1<D2)=false)):=by
  simp only[decide_eq_true_eq,decide_eq_false_iff_not];omega
 have atQ:bits .and .i64 4503599627370496 1=0:=by decide
 rcases hk with k1|⟨k1,k2⟩|⟨k1,k2⟩
 all_goals
  first|rw[if_pos (of_decide_eq_true k1)]|rw[if_neg (of_decide_eq_false k1),if_pos (of_decide_eq_true k2)]|rw[if_neg (of_decide_eq_false k1),if_neg (of_decide_eq_false k2)]
  rcases hc with ⟨rfl,h1,rfl,rfl,rfl,rfl,SK⟩|⟨hm1,hm2,h1,hod,⟨amd,ame⟩,rfl,rfl,rfl,SK⟩|⟨rfl,rfl,rfl,rfl,rfl,rfl,SK⟩|⟨hmb,hm1,hm2,h1,hod,⟨amd,ame⟩,rfl,sl,hsl,rfl,rfl,SK⟩|⟨hmb,hm1,hm2,h1,hod,⟨amd,ame⟩,rfl,sl,hsl,rfl,rfl,SK⟩
 all_goals
  have SK:=ah SK
  try have hd1:decide (-1085<e)=true:=by simp;omega
  try have hd1:decide (-1085<e)=false:=by simp;omega
  try have hd2:decide (-1085≤e)=true:=by simp;omega
  try have hd2:decide (-1085≤e)=false:=by simp;omega
  try have hmb:(m==9223372036854775808)=false:=by simp;omega
  try have hs1:0≤11+(-1085-e)-1:=by omega
  try have hs2:11+(-1085-e)-1≤62:=by omega
  try have hs3:0≤11+(-1085-e):=by omega
  try have hs4:11+(-1085-e)≤63:=by omega
  try have hez:e+(11+(-1085-e))=-1074:=by omega
  go_enter func191,ntmps191
  go_wp2_with (first|((first|(go_at_call 217;(with_reducible refine(SK.o _).mono ?_))|(go_at_call 145;(with_reducible refine(SK.o _).mono ?_))|(go_at_call 219;(with_reducible refine(LG.o _).mono ?_)));rintro e1 w1 ⟨rfl,rfl⟩)|(go_at_call 218;(refine PR.o.mono ?_);rintro e1 w1 ⟨rfl,hb1,hB1⟩;have c0:w1.cell? ⟨w.heap.size,0,none⟩=some (.int .u64 (oJ i)):=(aC hb1 0).trans rfl;have c1:w1.cell? ⟨w.heap.size,1,none⟩=some (.int .u64 (oK i)):=(aC hb1 1).trans rfl;have c2:w1.cell? ⟨w.heap.size,2,none⟩=some (.int .i64 S):=(aC hb1 2).trans rfl;have HB1:=aj.mk hB1;clear hb1 hB1)|(go_at_call 220;(with_reducible refine(U1.o _ (by first|exact c0|simpa using c0) (by first|exact c1|simpa using c1) (by first|exact c2|simpa using c2)).mono ?_);rintro e1 w2 ⟨rfl,n1,rfl⟩)|(go_at_call 220;(with_reducible refine(U2.o _ (by first|exact c0|simpa using c0) (by first|exact c1|simpa using c1) (by first|exact c2|simpa using c2)).mono ?_);rintro e1 w3 ⟨rfl,n2,rfl⟩)|(go_at_call 220;(with_reducible refine(U3.o _ (by first|exact c0|simpa using c0) (by first|exact c1|simpa using c1) (by first|exact c2|simpa using c2)).mono ?_);rintro e1 w4 ⟨rfl,n3,rfl⟩)|((first|(go_at_call 222;(with_reducible refine(C1.o _).mono ?_))|(go_at_call 223;(with_reducible refine(C2.o _).mono ?_))|(go_at_call 221;(with_reducible refine(af5 _ _ _).mono ?_))|(go_at_call 224;(with_reducible refine(agd _ _).mono ?_)));rintro e1 w5 ⟨rfl,rfl⟩))
  go_ret2
  exact⟨rfl,fJ ((gG _).trans HB1.o) _⟩
theorem YU (e:Int) (he1:-1085<e) (he2:e≤960) (w:World) (hw:ou w) (hz:18<w.heap.size) :
  Calls prog 191 #[.int .u64 9223372036854775808,.int .i64 e] w fun e' w'=>e'=.returned (.tuple #[.int .u64 (lY 9223372036854775808 e (-(T_ (e+11))) 9223372036854775296 9223372036854776832 0).1,.int .i64 (lY 9223372036854775808 e (-(T_ (e+11))) 9223372036854775296 9223372036854776832 0).2])∧Below w.heap.size w w':=by
 have:=Xh e he1 he2
 exact rM _ e _ _ _ 0 0 (by omega) (by omega) rfl (by omega) he2 w hw hz (.inl ⟨rfl,he1,rfl,rfl,rfl,rfl,fun w=>acR _ _⟩)
theorem YV (m e:Int) (hm1:9223372036854775808<m) (hm2:m<18446744073709551616) (he1:-1085≤e) (he2:e≤960) (w:World) (hw:ou w) (hz:18<w.heap.size) :
  Calls prog 191 #[.int .u64 m,.int .i64 e] w fun e' w'=>e'=.returned (.tuple #[.int .u64 (lY m e (-(log10 (e+11))) (m-1024) (IntKind.u64.wrap (m+1024)) (bits .and .i64 (m/2048) 1)).1,.int .i64 (lY m e (-(log10 (e+11))) (m-1024) (IntKind.u64.wrap (m+1024)) (bits .and .i64 (m/2048) 1)).2])∧Below w.heap.size w w':=by
 have:=uM (e+11) (by omega) (by omega)
 exact rM m e _ _ _ _ _ this.1 this.2 rfl (by omega) he2 w hw hz (.inr (.inl ⟨hm1,hm2,he1,rfl,TF _,rfl,rfl,rfl,fun w=>uK _ _⟩))
theorem TW (w:World) (hw:ou w) (hz:18<w.heap.size) :
  Calls prog 191 #[.int .u64 9223372036854775808,.int .i64 (-1085)] w fun e' w'=>e'=.returned (.tuple #[.int .u64 (lY 9223372036854775808 (-1085) (-(log10 (-1074))) 9223372036854774784 9223372036854776832 0).1,.int .i64 (lY 9223372036854775808 (-1085) (-(log10 (-1074))) 9223372036854774784 9223372036854776832 0).2])∧Below w.heap.size w w':=by
 have:=uM (-1074) (by omega) (by omega)
 exact rM _ _ _ _ _ 0 0 this.1 this.2 rfl (by omega) (by omega) w hw hz (.inr (.inr (.inl ⟨rfl,rfl,rfl,rfl,rfl,rfl,fun w=>uK _ _⟩)))
theorem M_ (m e:Int) (hmb:(m==9223372036854775808)=true) (hm1:9223372036854775808≤m) (hm2:m<18446744073709551616) (he1:-1137≤e) (he2:e < -1085) (w:World) (hw:ou w) (hz:18<w.heap.size) :
  Calls prog 191 #[.int .u64 m,.int .i64 e] w fun e' w'=>e'=.returned (.tuple #[.int .u64 (lY m e (-(log10 (-1074))) (IntKind.u64.wrap (m-(IntKind.u64.wrap (2^((11+(-1085-e)).toNat-1))))) (IntKind.u64.wrap (m+(IntKind.u64.wrap (2^((11+(-1085-e)).toNat-1))))) (bits .and .i64 (wrap64 (m/2^(11+(-1085-e)).toNat)) 1)).1,.int .i64 (lY m e (-(log10 (-1074))) (IntKind.u64.wrap (m-(IntKind.u64.wrap (2^((11+(-1085-e)).toNat-1))))) (IntKind.u64.wrap (m+(IntKind.u64.wrap (2^((11+(-1085-e)).toNat-1))))) (bits .and .i64 (wrap64 (m/2^(11+(-1085-e)).toNat)) 1)).2])∧Below w.heap.size w w':=by
 have:=uM (-1074) (by omega) (by omega)
 exact rM m e _ _ _ _ _ this.1 this.2 rfl he1 (by omega) w hw hz (.inr (.inr (.inr (.inl ⟨hmb,hm1,hm2,he2,rfl,TF _,rfl,_,rfl,rfl,rfl,fun w=>uK _ _⟩))))
theorem MZ (m e:Int) (hmb:(m==9223372036854775808)=false) (hm1:9223372036854775808≤m) (hm2:m<18446744073709551616) (he1:-1137≤e) (he2:e < -1085) (w:World) (hw:ou w) (hz:18<w.heap.size) :
  Calls prog 191 #[.int .u64 m,.int .i64 e] w fun e' w'=>e'=.returned (.tuple #[.int .u64 (lY m e (-(log10 (-1074))) (IntKind.u64.wrap (m-(IntKind.u64.wrap (2^((11+(-1085-e)).toNat-1))))) (IntKind.u64.wrap (m+(IntKind.u64.wrap (2^((11+(-1085-e)).toNat-1))))) (bits .and .i64 (wrap64 (m/2^(11+(-1085-e)).toNat)) 1)).1,.int .i64 (lY m e (-(log10 (-1074))) (IntKind.u64.wrap (m-(IntKind.u64.wrap (2^((11+(-1085-e)).toNat-1))))) (IntKind.u64.wrap (m+(IntKind.u64.wrap (2^((11+(-1085-e)).toNat-1))))) (bits .and .i64 (wrap64 (m/2^(11+(-1085-e)).toNat)) 1)).2])∧Below w.heap.size w w':=by
 have:=uM (-1074) (by omega) (by omega)
 exact rM m e _ _ _ _ _ this.1 this.2 rfl he1 (by omega) w hw hz (.inr (.inr (.inr (.inr ⟨hmb,hm1,hm2,he2,rfl,TF _,rfl,_,rfl,rfl,rfl,fun w=>uK _ _⟩))))
end Go.Proofs.YtllcccekodcdmaaGreatDoor.Fl
namespace Go.Proofs.YtllcccekodcdmaaGreatDoor.bK
open Go.Proofs.YtllcccekodcdmaaGreatDoor.Xs Go.RowKit Go.Proofs.ak.aT Go.Proofs.ak.cO Go.Proofs.ak.lQ
section
attribute [local go_sem] mW qc
mutual
def aZ.l0:Nat→List (dS)→Int→Int→Int→Int→bG→List (l9)→Option (Int×Int×bG×(List (l9)))
 |0,_,_,_,_,_,_,_=>none
 |k+1,x14,x15,x16,Xt,Xu,Xv,NP=>if x16<x15 then(if 0≤x16 then(if x16<(x14.length:Int)then((aZ.f k ((aA x14 x16).f0) ((aA x14 x16).f1) ((aA x14 x16).f2) ((aA x14 x16).f3)).bind fun UH=>(if NP.length<2513169434916 then(aZ.l0 k x14 x15 (wrap64 (x16+1)) Xt Xu Xv (NP++[(⟨UH.1,UH.2.1,UH.2.2.1,UH.2.2.2⟩:l9)]))else(none)))else(none))else(none))else(some (Xt,Xu,Xv,NP))
def aZ.f:Nat→Int→Int→bG→List (dS)→Option (Int×Int×bG×(List (l9)))
 |0,_,_,_,_=>none
 |k+1,aY,bF,bn,aG=>aZ.l0 k aG (aG.length:Int) 0 aY bF bn ([]:List (l9))
end
theorem aZ.dZ:∀k,(∀y0 y1 y2 y3,fE (aZ.f k y0 y1 y2 y3) (aZ.f (k+1) y0 y1 y2 y3))∧(∀y0 y1 y2 y3 y4 y5 y6,fE (aZ.l0 k y0 y1 y2 y3 y4 y5 y6) (aZ.l0 (k+1) y0 y1 y2 y3 y4 y5 y6))
 |0=>by refine⟨?_,?_⟩<;>(intros;intro r h;simp[aZ.f,aZ.l0]at h)
 |k+1=>by
  obtain⟨pO,ih1⟩:=aZ.dZ k
  refine⟨?_,?_⟩
  all_goals
   intros
   first|unfold aZ.f|unfold aZ.l0
   repeat' first|(with_reducible first|exact fE.refl _|exact fE.none _|refine fE.ite ?_ ?_|refine fE.bind ?_ (fun _=>?_)|apply pO|apply ih1)|apply pO|apply ih1|refine fE.ite ?_ ?_|refine fE.bind ?_ (fun _=>?_)
theorem aZ.mono:∀a0 a1 a2 a3 k,fE (aZ.f k a0 a1 a2 a3) (aZ.f (k+1) a0 a1 a2 a3):=by
 intro a0 a1 a2 a3 k
 obtain⟨pO,ih1⟩:=aZ.dZ k
 exact pO a0 a1 a2 a3
theorem aZ.calls (k:Nat):∀(aY:Int) (bF:Int) (bn:bG) (eH:Option Addr) (dI:Nat) (aG:List (dS)) (r1:Int) (r2:Int) (r3:bG) (r4:List (l9)) (w:World) (mV:Kd.C qx w eH aG.length aG) (mQ:aG.length≤dI) (h:aZ.f k aY bF bn aG=some (r1,r2,r3,r4)),
  Calls prog 19 #[.agg #[.int .u8 aY,.int .u64 bF,.string bn,.slice eH aG.length dI]] w fun e w'=>∃v3_:Value,e=.returned (.agg #[.int .u8 r1,.int .u64 r2,.string r3,v3_])∧Kd.R ug 53 w' w.heap.size (fun _=>True) v3_ r4∧Below w.heap.size w w':=by
 induction k using Nat.strongRecOn with
 | _ k ih =>
 intro aY bF bn eH dI aG r1 r2 r3 r4 w mV mQ h
 cases k with
 |zero=>exact absurd h (by simp[aZ.f])
 |succ k =>
 simp only[aZ.f]at h
 have OZ:=underlying32
 have at7:=underlying53
 have qh:=aj.mk mV
 have IG:=aj.mk mQ
 clear mV mQ
 have HB:=aj.mk (jM w)
 have H:(aZ.l0 k aG (aG.length:Int) 0 aY bF bn ([]:List (l9)))=some (r1,r2,r3,r4):=h
 clear h
 have H':=aj.mk H
 clear H
 go_enter func19,ntmps19
 go_wp2_with (first|((with_reducible refine gI (N:=1) rfl ?_);refine NS (N:=1) (cs:=#[.int .u8 aY,.int .u64 bF,.string bn,.slice eH aG.length dI]) (t:=32) ?_;intro jI hg w2 hbox hb;have HB:=aj.mk (bT ab hb);have jP:=aj.mk (hbox);have arE:aj (w.heap.size≤jI):=sz hg;have ark:aj (w.heap.size≤jI):=sz hg;clear hb hbox hg)|((with_reducible refine gI (N:=2) rfl ?_);refine NS (N:=2) (cs:=#[.int .u8 0,.int .u64 0,.string (⟨#[]⟩:bG),.slice none 0 0]) (t:=53) ?_;intro jy hg w3 hbox hb;have jP:=aj.mk (bM (g:=jI) (o:=.cells #[.int .u8 aY,.int .u64 bF,.string bn,.slice eH aG.length dI] 32 (0,0)) bk hb);have HB:=aj.mk (bT ab hb);have wH:=aj.mk (hbox);have arF:aj (w.heap.size≤jy):=sz hg;have arl:aj (w.heap.size≤jy):=sz hg;have IJ:=aj.mk ((by rw[hg];exact Nat.ne_of_lt (eP (g:=jI) (o:=.cells #[.int .u8 aY,.int .u64 bF,.string bn,.slice eH aG.length dI] 32 (0,0)) bk):jI≠jy));have IL:=aj.mk ((by rw[hg];exact Nat.ne_of_gt (eP (g:=jI) (o:=.cells #[.int .u8 aY,.int .u64 bF,.string bn,.slice eH aG.length dI] 32 (0,0)) bk):jy≠jI));clear hb hbox hg;have atG:=IJ.o;have atK:=IL.o;have aiq:w3.cell? ⟨jI,0,none⟩=some (.int .u8 aY):=(aC jP.o 0).trans rfl;have air:w3.cell? ⟨jI,1,none⟩=some (.int .u64 bF):=(aC jP.o 1).trans rfl;have ais:w3.cell? ⟨jI,2,none⟩=some (.string bn):=(aC jP.o 2).trans rfl;have ait:w3.cell? ⟨jI,3,none⟩=some (.slice eH aG.length dI):=(aC jP.o 3).trans rfl;have aiF:=aK jP.o 0;have aiG:=aK jP.o 1;have aiH:=aK jP.o 2;have aiI:=aK jP.o 3)|((with_reducible refine gI (N:=3) rfl ?_);refine NS (N:=3) (cs:=#[.int .u8 0,.int .u64 0,.string (⟨#[]⟩:bG),.slice none 0 0]) (t:=53) ?_;intro jd hg w6 hbox hb;have jP:=aj.mk (bM (g:=jI) (o:=.cells #[.int .u8 aY,.int .u64 bF,.string bn,.slice eH aG.length dI] 32 (0,0)) bk hb);have wH:=aj.mk (bM (g:=jy) (o:=.cells #[.int .u8 0,.int .u64 0,.string (⟨#[]⟩:bG),.slice none 0 0] 53 (0,0)) bk hb);have HB:=aj.mk (bT ab hb);have iJ:=aj.mk (hbox);have arG:aj (w.heap.size≤jd):=sz hg;have arn:aj (w.heap.size≤jd):=sz hg;have Ce:=aj.mk ((by rw[hg];exact Nat.ne_of_lt (eP (g:=jI) (o:=.cells #[.int .u8 aY,.int .u64 bF,.string bn,.slice eH aG.length dI] 32 (0,0)) bk):jI≠jd));have Cj:=aj.mk ((by rw[hg];exact Nat.ne_of_gt (eP (g:=jI) (o:=.cells #[.int .u8 aY,.int .u64 bF,.string bn,.slice eH aG.length dI] 32 (0,0)) bk):jd≠jI));have Ci:=aj.mk ((by rw[hg];exact Nat.ne_of_lt (eP (g:=jy) (o:=.cells #[.int .u8 0,.int .u64 0,.string (⟨#[]⟩:bG),.slice none 0 0] 53 (0,0)) bk):jy≠jd));have Cm:=aj.mk ((by rw[hg];exact Nat.ne_of_gt (eP (g:=jy) (o:=.cells #[.int .u8 0,.int .u64 0,.string (⟨#[]⟩:bG),.slice none 0 0] 53 (0,0)) bk):jd≠jy));clear hb hbox hg;have atH:=Cj.o;have atL:=Ce.o;have atI:=Cm.o;have atM:=Ci.o;have aiu:w6.cell? ⟨jd,0,none⟩=some (.int .u8 0):=(aC iJ.o 0).trans rfl;have aiv:w6.cell? ⟨jd,1,none⟩=some (.int .u64 0):=(aC iJ.o 1).trans rfl;have aiw:w6.cell? ⟨jd,2,none⟩=some (.string (⟨#[]⟩:bG)):=(aC iJ.o 2).trans rfl;have aix:w6.cell? ⟨jd,3,none⟩=some (.slice none 0 0):=(aC iJ.o 3).trans rfl;have aiJ:=aK iJ.o 0;have aiK:=aK iJ.o 1;have aiL:=aK iJ.o 2;have aiM:=aK iJ.o 3;have aeK:w6.cell? ⟨jI,0,none⟩=some (.int .u8 aY):=(aC jP.o 0).trans rfl;have aeL:w6.cell? ⟨jI,1,none⟩=some (.int .u64 bF):=(aC jP.o 1).trans rfl;have aeM:w6.cell? ⟨jI,2,none⟩=some (.string bn):=(aC jP.o 2).trans rfl;have aeN:w6.cell? ⟨jI,3,none⟩=some (.slice eH aG.length dI):=(aC jP.o 3).trans rfl;have ae4:=aK jP.o 0;have ae5:=aK jP.o 1;have ae6:=aK jP.o 2;have ae7:=aK jP.o 3))
 go_loopg [16] k (fun kq v16 w'=>∃(dV:Int) (kD:List (l9)) (jV:Value),v16=.int .i64 dV∧aj (aZ.l0 kq aG (aG.length:Int) dV aY bF bn kD=some (r1,r2,r3,r4))∧aj (kq≤k)∧aj (Kd.R ug 53 w' w.heap.size (fun k_=>k_≠jy∧k_≠jd) jV kD)∧aj (w'.heap[jI]?=some (.cells #[.int .u8 aY,.int .u64 bF,.string bn,(.slice eH aG.length dI)] 32 (0,0)))∧aj (w'.heap[jy]?=some (.cells #[.int .u8 0,.int .u64 0,.string (⟨#[]⟩:bG),(.slice none 0 0)] 53 (0,0)))∧aj (w'.heap[jd]?=some (.cells #[.int .u8 aY,.int .u64 bF,.string bn,jV] 53 (0,0)))∧aj (Below w.heap.size w w'))
 case atStart=>exact⟨(0),(([]:List (l9))),(.slice none 0 0),rf,H',⟨bW⟩,⟨kn⟩,⟨bz⟩,⟨bz⟩,⟨bz⟩,⟨ab⟩⟩
 case round =>
  clear H'
  obtain⟨dV,kD,jV,rfl,HA,pX,gq,jP,wH,iJ,HB⟩:=hrel
  cases gk with
  |zero=>exact absurd HA.o (by simp[aZ.l0])
  |succ k1 =>
   have H:=HA.o
   clear HA
   simp only[aZ.l0]at H
   replace H:=di H;obtain⟨zM,H⟩|⟨zM,H⟩:=H
   ·replace H:=dn H;obtain⟨wL,-,H⟩:=H
    replace H:=dn H;obtain⟨uw,-,H⟩:=H
    replace H:=Option.bind_eq_some_iff.mp H
    obtain⟨⟨Y6,Y7,Y8,Y9⟩,akm,H⟩:=H
    replace H:(if kD.length<2513169434916 then(aZ.l0 k1 aG (aG.length:Int) (wrap64 (dV+1)) aY bF bn (kD++[(⟨Y6,Y7,Y8,Y9⟩:l9)]))else(none))=some (r1,r2,r3,r4):=H
    have A14:=aj.mk akm
    clear akm
    by_cases c15:kD.length<2513169434916
    ·rw[if_pos c15]at H
     have akF:=aj.mk c15
     clear c15
     obtain⟨agH,O1⟩:∃y_:List (l9),y_=(kD++[(⟨Y6,Y7,Y8,Y9⟩:l9)]):=⟨_,rfl⟩
     replace H:(aZ.l0 k1 aG (aG.length:Int) (wrap64 (dV+1)) aY bF bn agH)=some (r1,r2,r3,r4):=by first|(rw[O1];with_reducible exact H)|(have EU:=(Option.bind_some _ _).symm.trans H;rw[O1];with_reducible exact EU)|(have EU:=(Option.bind_some _ _).symm.trans H;with_reducible exact EU)|with_reducible exact H|(rw[O1];exact H)|exact H
     have akL:=aj.mk O1
     clear O1
     have H':=aj.mk H
     clear H
     have ajm:0≤(dV:Int):=od
     have ajB:dV<(aG.length:Int):=od
     obtain⟨I7,pG,pJ,ap6,Ws,Wu,Wv,Wx,VN,VJ⟩:=mD qh.o dV ajm ajB
     cases ap6
     replace Ws:=up HB.o Ws
     replace Wu:=up HB.o Wu
     replace Wv:=up HB.o Wv
     replace Wx:=up HB.o Wx
     have ad5:=aj.mk VJ
     have adT:=aj.mk VN
     clear VJ VN
     replace ajm:=eq_true ajm
     replace ajB:=eq_true ajB
     try go_wp2_with ((with_reducible refine gI (N:=5) rfl ?_);refine NS (N:=5) (cs:=#[.int .u8 0,.int .u64 0,.string (⟨#[]⟩:bG),.slice none 0 0]) (t:=32) ?_;intro eU hg w16 hbox hb;have gq:=aj.mk (Kd.uX (kr gq.o) hb);have jP:=aj.mk (bM (g:=jI) (o:=.cells #[.int .u8 aY,.int .u64 bF,.string bn,.slice (some I7) aG.length dI] 32 (0,0)) bk hb);have wH:=aj.mk (bM (g:=jy) (o:=.cells #[.int .u8 0,.int .u64 0,.string (⟨#[]⟩:bG),.slice none 0 0] 53 (0,0)) bk hb);have iJ:=aj.mk (bM (g:=jd) (o:=.cells #[.int .u8 aY,.int .u64 bF,.string bn,jV] 53 (0,0)) bk hb);have HB:=aj.mk (bT ab hb);have iV:=aj.mk (hbox);have arH:aj (w.heap.size≤eU):=sz hg;have aro:aj (w.heap.size≤eU):=sz hg;have XI:=aj.mk ((by rw[hg];exact Nat.ne_of_lt (eP (g:=jI) (o:=.cells #[.int .u8 aY,.int .u64 bF,.string bn,.slice (some I7) aG.length dI] 32 (0,0)) bk):jI≠eU));have XK:=aj.mk ((by rw[hg];exact Nat.ne_of_gt (eP (g:=jI) (o:=.cells #[.int .u8 aY,.int .u64 bF,.string bn,.slice (some I7) aG.length dI] 32 (0,0)) bk):eU≠jI));have XJ:=aj.mk ((by rw[hg];exact Nat.ne_of_lt (eP (g:=jy) (o:=.cells #[.int .u8 0,.int .u64 0,.string (⟨#[]⟩:bG),.slice none 0 0] 53 (0,0)) bk):jy≠eU));have XL:=aj.mk ((by rw[hg];exact Nat.ne_of_gt (eP (g:=jy) (o:=.cells #[.int .u8 0,.int .u64 0,.string (⟨#[]⟩:bG),.slice none 0 0] 53 (0,0)) bk):eU≠jy));have IQ:=aj.mk ((by rw[hg];exact Nat.ne_of_lt (eP (g:=jd) (o:=.cells #[.int .u8 aY,.int .u64 bF,.string bn,jV] 53 (0,0)) bk):jd≠eU));have IU:=aj.mk ((by rw[hg];exact Nat.ne_of_gt (eP (g:=jd) (o:=.cells #[.int .u8 aY,.int .u64 bF,.string bn,jV] 53 (0,0)) bk):eU≠jd));clear hb hbox hg;have al7:=XK.o;have ama:=XI.o;have al8:=XL.o;have amb:=XJ.o;have asD:=IU.o;have asR:=IQ.o;have Vk:w16.cell? ⟨eU,0,none⟩=some (.int .u8 0):=(aC iV.o 0).trans rfl;have Vl:w16.cell? ⟨eU,1,none⟩=some (.int .u64 0):=(aC iV.o 1).trans rfl;have Vm:w16.cell? ⟨eU,2,none⟩=some (.string (⟨#[]⟩:bG)):=(aC iV.o 2).trans rfl;have Vo:w16.cell? ⟨eU,3,none⟩=some (.slice none 0 0):=(aC iV.o 3).trans rfl;have Vz:=aK iV.o 0;have VB:=aK iV.o 1;have VE:=aK iV.o 2;have VF:=aK iV.o 3)
     have ML:aj (Kd.R ug 53 ((((w16.setCell ⟨eU,0,none⟩ (.int .u8 ((aA aG dV).f0))).setCell ⟨eU,1,none⟩ (.int .u64 ((aA aG dV).f1))).setCell ⟨eU,2,none⟩ (.string ((aA aG dV).f2))).setCell ⟨eU,3,none⟩ (.slice pG ((aA aG dV).f3).length pJ)) w.heap.size (fun k_=>k_≠jy∧k_≠jd) jV kD):=⟨by(with_reducible repeat (first|apply Kd.kL|apply Kd.jU|apply Kd.kM));exact Kd.gX (Kd.fZ (p:=⟨eU,3,none⟩) (Kd.fZ (p:=⟨eU,2,none⟩) (Kd.fZ (p:=⟨eU,1,none⟩) (Kd.fZ (p:=⟨eU,0,none⟩) (Kd.pY gq.o iV.o (by decide)) (fun _ hk=>hk.2) (.int .u8 ((aA aG dV).f0))) (fun _ hk=>hk.2) (.int .u64 ((aA aG dV).f1))) (fun _ hk=>hk.2) (.string ((aA aG dV).f2))) (fun _ hk=>hk.2) (.slice pG ((aA aG dV).f3).length pJ)) (fun _ hk=>⟨hk.1.1,hk.1.2⟩)⟩
     have MN:aj (((((w16.setCell ⟨eU,0,none⟩ (.int .u8 ((aA aG dV).f0))).setCell ⟨eU,1,none⟩ (.int .u64 ((aA aG dV).f1))).setCell ⟨eU,2,none⟩ (.string ((aA aG dV).f2))).setCell ⟨eU,3,none⟩ (.slice pG ((aA aG dV).f3).length pJ)).heap[jI]?=some (.cells #[.int .u8 aY,.int .u64 bF,.string bn,.slice (some I7) aG.length dI] 32 (0,0))):=⟨bz⟩
     have MO:aj (((((w16.setCell ⟨eU,0,none⟩ (.int .u8 ((aA aG dV).f0))).setCell ⟨eU,1,none⟩ (.int .u64 ((aA aG dV).f1))).setCell ⟨eU,2,none⟩ (.string ((aA aG dV).f2))).setCell ⟨eU,3,none⟩ (.slice pG ((aA aG dV).f3).length pJ)).heap[jy]?=some (.cells #[.int .u8 0,.int .u64 0,.string (⟨#[]⟩:bG),.slice none 0 0] 53 (0,0))):=⟨bz⟩
     have MP:aj (((((w16.setCell ⟨eU,0,none⟩ (.int .u8 ((aA aG dV).f0))).setCell ⟨eU,1,none⟩ (.int .u64 ((aA aG dV).f1))).setCell ⟨eU,2,none⟩ (.string ((aA aG dV).f2))).setCell ⟨eU,3,none⟩ (.slice pG ((aA aG dV).f3).length pJ)).heap[jd]?=some (.cells #[.int .u8 aY,.int .u64 bF,.string bn,jV] 53 (0,0))):=⟨bz⟩
     have Qu:aj (((((w16.setCell ⟨eU,0,none⟩ (.int .u8 ((aA aG dV).f0))).setCell ⟨eU,1,none⟩ (.int .u64 ((aA aG dV).f1))).setCell ⟨eU,2,none⟩ (.string ((aA aG dV).f2))).setCell ⟨eU,3,none⟩ (.slice pG ((aA aG dV).f3).length pJ)).heap[eU]?=some (.cells #[.int .u8 ((aA aG dV).f0),.int .u64 ((aA aG dV).f1),.string ((aA aG dV).f2),.slice pG ((aA aG dV).f3).length pJ] 32 (0,0))):=⟨bz⟩
     have Qv:aj (Below w.heap.size w ((((w16.setCell ⟨eU,0,none⟩ (.int .u8 ((aA aG dV).f0))).setCell ⟨eU,1,none⟩ (.int .u64 ((aA aG dV).f1))).setCell ⟨eU,2,none⟩ (.string ((aA aG dV).f2))).setCell ⟨eU,3,none⟩ (.slice pG ((aA aG dV).f3).length pJ))):=⟨ab⟩
     generalize ((((w16.setCell ⟨eU,0,none⟩ (.int .u8 ((aA aG dV).f0))).setCell ⟨eU,1,none⟩ (.int .u64 ((aA aG dV).f1))).setCell ⟨eU,2,none⟩ (.string ((aA aG dV).f2))).setCell ⟨eU,3,none⟩ (.slice pG ((aA aG dV).f3).length pJ))=w21 at ML MN MO MP Qu Qv ⊢
     have gq:=ML
     have jP:=MN
     have wH:=MO
     have iJ:=MP
     have iV:=Qu
     have HB:=Qv
     clear ML MN MO MP Qu Qv
     have gq:=aj.mk (Kd.kM gq.o)
     have jP:=aj.mk (jk jP.o)
     have wH:=aj.mk (jk wH.o)
     have iJ:=aj.mk (jk iJ.o)
     have iV:=aj.mk (jk iV.o)
     have HB:=aj.mk (nK HB.o)
     refine G8 (n:=8) (S:=fun w'=>w'.cell? ⟨jd,0,none⟩=some (.int .u8 aY)∧w'.cell? ⟨jd,1,none⟩=some (.int .u64 bF)∧w'.cell? ⟨jd,2,none⟩=some (.string bn)∧w'.cell? ⟨jd,3,none⟩=some (jV)∧w'.cell? ⟨eU,0,none⟩=some (.int .u8 ((aA aG dV).f0))∧w'.cell? ⟨eU,1,none⟩=some (.int .u64 ((aA aG dV).f1))∧w'.cell? ⟨eU,2,none⟩=some (.string ((aA aG dV).f2))∧w'.cell? ⟨eU,3,none⟩=some (.slice pG ((aA aG dV).f3).length pJ)) (ds:=[7]) #[false,false,false,false,false,false,false,false] (by kernel_rfl) rfl rfl ⟨(aC iJ.o 0).trans rfl,(aC iJ.o 1).trans rfl,(aC iJ.o 2).trans rfl,(aC iJ.o 3).trans rfl,(aC iV.o 0).trans rfl,(aC iV.o 1).trans rfl,(aC iV.o 2).trans rfl,(aC iV.o 3).trans rfl⟩ (fun hHeld=>?_)
     generalize w21.drew=w22 at gq jP wH iJ iV HB hHeld ⊢
     refine pk 0 ?_
     refine tk 1 ?_
     refine tk 2 ?_
     refine on 3 fun K hK=>?_
     refine DZ func19 (by kernel_rfl) rfl #[.agg #[.int .u8 ((aA aG dV).f0),.int .u64 ((aA aG dV).f1),.string ((aA aG dV).f2),.slice pG ((aA aG dV).f3).length pJ]] (by rfl) rfl rfl mt ?_
     with_reducible refine(ih k1 (by have:=pX.o;omega) ((aA aG dV).f0) ((aA aG dV).f1) ((aA aG dV).f2) _ _ ((aA aG dV).f3) Y6 Y7 Y8 Y9 _ ?jK ?jL A14.o).mono ?_
     (case jK=>repeat (first|exact(Kd.bQ ad5.o HB.o)|(with_reducible refine Kd.jE ?_ _)|(with_reducible refine Kd.kY ?_ _)|(with_reducible refine Kd.n_ ?_)))
     (case jL=>exact adT.o)
     rintro e w23 ⟨auR,rfl,ho0,hb⟩
     refine⟨_,rfl,?_⟩
     have ML:=aj.mk (Kd.zG (kr gq.o) (Kd.E5 ho0) hb)
     have MN:=aj.mk (Kd.qF (Kd.aac (Kd.aac (Kd.QO ho0 (Kd.aec (kr gq.o))) (g:=jy) (o:=.cells #[.int .u8 0,.int .u64 0,.string (⟨#[]⟩:bG),.slice none 0 0] 53 (0,0)) bk) (g:=jd) (o:=.cells #[.int .u8 aY,.int .u64 bF,.string bn,jV] 53 (0,0)) bk) (iF ab))
     have MO:=aj.mk (bM (g:=jI) (o:=.cells #[.int .u8 aY,.int .u64 bF,.string bn,.slice (some I7) aG.length dI] 32 (0,0)) bk hb)
     have MP:=aj.mk (bM (g:=jy) (o:=.cells #[.int .u8 0,.int .u64 0,.string (⟨#[]⟩:bG),.slice none 0 0] 53 (0,0)) bk hb)
     have Qu:=aj.mk (bM (g:=jd) (o:=.cells #[.int .u8 aY,.int .u64 bF,.string bn,jV] 53 (0,0)) bk hb)
     have Qv:=aj.mk (bM (g:=eU) (o:=.cells #[.int .u8 ((aA aG dV).f0),.int .u64 ((aA aG dV).f1),.string ((aA aG dV).f2),.slice pG ((aA aG dV).f3).length pJ] 32 (0,0)) bk hb)
     have ZF:=aj.mk (bT ab hb)
     clear gq
     clear jP
     clear wH
     clear iJ
     clear iV
     clear HB
     have gq:=ML
     have agK:=MN
     have jP:=MO
     have wH:=MP
     have iJ:=Qu
     have iV:=Qv
     have HB:=ZF
     clear ML MN MO MP Qu Qv ZF
     obtain⟨apu,apU,alI⟩:=Kd.oz agK.o
     (first|subst alI|(injection alI with Jf Yb Jg;have Yc:=Jf.symm;have Yd:=Jg.symm;clear Jf Yb Jg;subst Yc;subst Yd))
     refine hK.o _ _ ⟨(aC iJ.o 0).trans rfl,(aC iJ.o 1).trans rfl,(aC iJ.o 2).trans rfl,(aC iJ.o 3).trans rfl,(aC iV.o 0).trans rfl,(aC iV.o 1).trans rfl,(aC iV.o 2).trans rfl,(aC iV.o 3).trans rfl⟩ (fun hHeld=>?_)
     clear hK K
     refine qm (a':=?_) ?_ ?_
     rotate_left
     ·show Act.put _ (some 23) _=_
      simp only[Act.put,List.setIfInBounds_toArray,List.set_cons_zero,List.set_cons_succ,gZ,iK]
      rfl
     refine on 4 fun K hK=>?_
     refine adt (w1:=?_) (v:=?_) (by rfl) rfl ?_ ?_
     rotate_left 2
     ·go_simp
      constructor
      ·rfl
      ·rfl
     refine hK.o _ _ ⟨(aC (fH iJ.o _) 0).trans rfl,(aC (fH iJ.o _) 1).trans rfl,(aC (fH iJ.o _) 2).trans rfl,(aC (fH iJ.o _) 3).trans rfl,(aC (fH iV.o _) 0).trans rfl,(aC (fH iV.o _) 1).trans rfl,(aC (fH iV.o _) 2).trans rfl,(aC (fH iV.o _) 3).trans rfl⟩ (fun hHeld=>?_)
     clear hK K
     refine qm (a':=?_) ?_ ?_
     rotate_left
     ·show Act.put _ (some 24) _=_
      simp only[Act.put,List.setIfInBounds_toArray,List.set_cons_zero,List.set_cons_succ,gZ,iK]
      rfl
     refine on 5 fun K hK=>?_
     refine Kd.yF ug (w0:=w) w.heap.size (by rfl) (.tmp 21) (.tmp 24) 51 53 (.agg #[(.int .u8 0),(.int .u64 0),(.string ⟨#[]⟩),(.slice none 0 0)]) 56 rfl underlying51 abR rfl (by decide) (by omega) jV kD (⟨Y6,Y7,Y8,Y9⟩:l9) [.int .u8 Y6,.int .u64 Y7,.string Y8,.slice apu Y9.length apU] (fun k_=>k_≠jy∧k_≠jd) (fun k_=>((fun k_=>k_≠jy∧k_≠jd)) k_∧some k_≠(jV:Value).ownBlock) rfl rfl ?aP (fun _ hk=>hk) ?aF ?aO ?aB ?aS ?aL ?_
     (case aP=>exact Me _ _ _ (⟨Y6,Y7,Y8,Y9⟩:l9) (Kd.gX (agK.o) (fun k_ hk=>⟨⟨hk.1.2,hk.2⟩,hk.1.1.2⟩)))
     (case aB=>exact ab)
     (case aF=>exact(fun k_ hk=>⟨Kd.abl (g:=jy) (o:=.cells #[.int .u8 0,.int .u64 0,.string (⟨#[]⟩:bG),.slice none 0 0] 53 (0,0)) bk k_ hk,Kd.abl (g:=jd) (o:=.cells #[.int .u8 aY,.int .u64 bF,.string bn,jV] 53 (0,0)) bk k_ hk⟩))
     (case aO=>exact(by(with_reducible repeat (first|apply Kd.kL|apply Kd.jU|apply Kd.kM));exact Kd.gX gq.o (fun _ hk=>⟨hk.1.1,hk.1.2⟩)))
     (case aS=>exact(iF ab))
     (case aL=>have:=akF.o;omega)
     intro auS JO ho hb hg hat
     rw[←akL.o]at ho
     have jP:=aj.mk (lS (g:=jI) (o:=.cells #[.int .u8 aY,.int .u64 bF,.string bn,.slice (some I7) aG.length dI] 32 (0,0)) bk hg (Kd.QN gq.o jP.o (by decide)))
     have wH:=aj.mk (lS (g:=jy) (o:=.cells #[.int .u8 0,.int .u64 0,.string (⟨#[]⟩:bG),.slice none 0 0] 53 (0,0)) bk hg (Kd.Z_ gq.o (fun _ hk=>hk.1.1)))
     have iJ:=aj.mk (lS (g:=jd) (o:=.cells #[.int .u8 aY,.int .u64 bF,.string bn,jV] 53 (0,0)) bk hg (Kd.Z_ gq.o (fun _ hk=>hk.1.2)))
     have iV:=aj.mk (lS (g:=eU) (o:=.cells #[.int .u8 ((aA aG dV).f0),.int .u64 ((aA aG dV).f1),.string ((aA aG dV).f2),.slice pG ((aA aG dV).f3).length pJ] 32 (0,0)) bk hg (Kd.QN gq.o iV.o (by decide)))
     have HB:=aj.mk (hb)
     have agL:=aj.mk (ho)
     clear ho hb hg hat
     obtain⟨akn,aln,alJ⟩:=Kd.oz agL.o
     (first|subst alJ|(injection alJ with Jf Yb Jg;have Yc:=Jf.symm;have Yd:=Jg.symm;clear Jf Yb Jg;subst Yc;subst Yd))
     refine hK.o _ _ ⟨(aC iJ.o 0).trans rfl,(aC iJ.o 1).trans rfl,(aC iJ.o 2).trans rfl,(aC iJ.o 3).trans rfl,(aC iV.o 0).trans rfl,(aC iV.o 1).trans rfl,(aC iV.o 2).trans rfl,(aC iV.o 3).trans rfl⟩ (fun hHeld=>?_)
     clear hK K
     refine qm (a':=?_) ?_ ?_
     rotate_left
     ·show Act.put _ (some 25) _=_
      simp only[Act.put,List.setIfInBounds_toArray,List.set_cons_zero,List.set_cons_succ,gZ,iK]
      rfl
     refine pk 6 ?_
     refine ahh (i:=7) (N:=none) #[true,true,true,true,true,true,true,true] rfl rfl (by kernel_rfl) (by decide) (fun K hK=>?_)
     have atY:JO.cell? ⟨jd,3,none⟩=some (jV):=(aC iJ.o 3).trans rfl
     have asv:=aK iJ.o 3
     have ao8:=Ce.o
     have ao9:=Ci.o
     have apa:=IU.o
     have aoS:=Cj.o
     have aoT:=Cm.o
     have aoU:=IQ.o
     refine acS (w1:=?_) (by rfl) rfl ?_ ?_
     rotate_left
     ·go_simp
      rfl
     refine hK.o _ _ ?_
     clear hK K
     refine FX (by kernel_rfl) ?_
     try go_wp2
     go_roundg k1
     case measure=>have:=pX.o;omega
     case rel=>exact⟨(wrap64 (dV+1)),(agH),(.slice akn agH.length aln),rf,H',⟨by have:=pX.o;omega⟩,⟨by(with_reducible repeat (first|apply Kd.kL|apply Kd.jU|apply Kd.kM));exact Kd.gX (Kd.fZ (p:=⟨jd,3,none⟩) (Kd.gX agL.o (fun k_ hk=>(⟨hk,hk.2⟩:_∧k_≠jd))) (fun _ hk=>hk.2) (.slice akn agH.length aln)) (fun _ hk=>⟨hk.1.1,hk.1.2⟩)⟩,⟨bz⟩,⟨bz⟩,⟨bz⟩,⟨ab⟩⟩
    ·rw[if_neg c15]at H
     exact absurd H (by simp)
   ·simp only[Option.some.injEq,Prod.mk.injEq]at H
    obtain⟨rfl,rfl,rfl,rfl⟩:=H
    have asH:=Cj.o
    have asW:=Ce.o
    have asI:=Cm.o
    have asX:=Ci.o
    obtain⟨anv,anw,anx,anz,aom,aon,aoo,aop⟩:=CU iJ.o
    have asJ:=IL.o
    have asY:=IJ.o
    obtain⟨anE,anF,anG,anH,aou,aov,aow,aox⟩:=CU wH.o
    obtain⟨ako,alo,aqb⟩:=Kd.oz gq.o
    subst aqb
    go_wp2
    refine iW (results_cell_row rfl _ _ jy 53 #[.int .u8 aY,.int .u64 bF,.string bn,.slice ako kD.length alo] (0,0) _ rfl bz underlying53 rfl (by kernel_rfl)) rfl ?_
    exact⟨_,re,by(with_reducible repeat (first|apply Kd.kL|apply Kd.jU|apply Kd.kM));exact Kd.gX (Kd.fZ (p:=⟨jy,3,none⟩) (Kd.fZ (p:=⟨jy,2,none⟩) (Kd.fZ (p:=⟨jy,1,none⟩) (Kd.fZ (p:=⟨jy,0,none⟩) (Kd.gX gq.o (fun k_ hk=>(⟨hk,hk.1⟩:_∧k_≠jy))) (fun _ hk=>hk.2) (.int .u8 aY)) (fun _ hk=>hk.2) (.int .u64 bF)) (fun _ hk=>hk.2) (.string bn)) (fun _ hk=>hk.2) (.slice ako kD.length alo)) (fun _ hk=>trivial),ab⟩
end
end Go.Proofs.YtllcccekodcdmaaGreatDoor.bK
