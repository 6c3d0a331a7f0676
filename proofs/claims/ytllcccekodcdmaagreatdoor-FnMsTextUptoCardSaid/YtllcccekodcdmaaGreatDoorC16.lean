import Derived.Deep.DeepFit
import Derived.Laws.Cover2
import Derived.Lib.LazyBuf
import Derived.Test.YtllcccekodcdmaaGreatDoorC15
set_option linter.unusedVariables false
set_option linter.unusedSimpArgs false
set_option maxRecDepth 100000
set_option maxHeartbeats 32000000
open Go.Proofs.Tryz
namespace Go.Proofs.YtllcccekodcdmaaGreatDoor.Fl
open Go Go.RowKit Go.Sort Go.Lib Go.Proofs.YtllcccekodcdmaaGreatDoor.Ms Go.Proofs.ak.aT
theorem aia (b:Nat) (neg:Bool) (ex mt:Int) (M L:Nat) (m e:Int) (R:Road b neg ex mt M L m e) (h0:(ex==0)=false) (B:Nat) (W0 w:World) (v:Value) (hb:OwnBuf B 5 v 0 [] W0 w) (ft:oQ w) :
  Calls prog 154 #[v,.float .f64 b,.int .u8 103,.int .i64 (-1)] w fun e1 w'=>∃v',e1=.returned v'∧OwnBuf B 5 v' (yL neg m e).length (intCells (yL neg m e)) W0 w':=by
 obtain⟨hb64,hneg,hex,hmt,h7,hr1,hr2,hM,hM0,hL,hL1,hL2,hMb,hm,hm1,hm2,he,he1,he2⟩:=R
 have hM':bits .or .u64 mt 4503599627370496=M:=by
  rcases hM with ⟨h,_⟩|⟨_,h⟩
  ·rw[h0]at h;cases h
  ·exact h
 have hx0:¬ex=0:=by simpa using h0
 rw[if_neg hx0]at he
 clear hM hx0
 have abx:=fun w=>yj b w
 have EW:∀w,uQ 146 #[.int .u64 M] w (.int .i64 L):=fun w=>by
  have:=bits_Len64 (M:Int) w (by omega) (by omega)
  rw[show (M:Int).toNat=M by omega,hL]at this
  exact this.mono (by rintro e w' ⟨rfl,rfl⟩;exact⟨rfl,rfl⟩)
 have EW:=ah EW
 obtain⟨u,hu⟩:∃u:Nat,(Iw m e).1=u:=⟨(Iw m e).1.toNat,by have:=GU m e he1 he2;omega⟩
 obtain⟨p,hp⟩:∃p,(Iw m e).2=p:=⟨_,rfl⟩
 have hbd:=GU m e he1 he2
 rw[hu,hp]at hbd
 obtain⟨-,hu2,hp1,hp2⟩:=hbd
 have SH:∀W,oQ W→Calls prog 191 #[.int .u64 m,.int .i64 e] W fun e' w'=>e'=.returned (.tuple #[.int .u64 u,.int .i64 p])∧Below W.heap.size W w':=fun W hW=>by
  have:=JC m e hm1 hm2 he1 he2 W hW.pow hW.big
  rwa [hu,hp]at this
 have SH:=ah SH
 have hfc:yL neg m e=Ik neg (fun j=>((dg u (nD u-1-j)).toNat:Int)) (nz u (nD u) (nD u)) ((nD u:Int)+p):=by
  simp only[yL,hu,hp,show((u:Int)).toNat=u by omega]
 rw[hfc]
 have aiP:=acw u (by omega)
 have hlt:=ahi u
 have NUM:∀W,oQ W→uQ 119 #[.int .u64 u] W (.int .i64 (nD u)):=fun W hW=>amo u (by omega) W hW.p10
 have NUM:=ah NUM
 have hu64:u<18446744073709551616:=by omega
 have SD:∀W,(∀j,j<nD u→W.cell? ⟨w.heap.size,j,none⟩=some (.int .u8 0)∧W.frozen? ⟨w.heap.size,j,none⟩=false)→Calls prog 186 #[.slice (some ⟨w.heap.size,0,none⟩) 32 32,.int .u64 u,.int .i64 p,.int .i64 (nD u)] W fun e w'=>e=.returned (.tuple #[.int .i64 (nD u+p),.int .i64 (nz u (nD u) (nD u):Nat)]) ∧
   (∀j,j<nD u→w'.cell? ⟨w.heap.size,j,none⟩=some (aaH u (nD u) j))∧Below w.heap.size W w'∧∀cs T fr,W.heap[w.heap.size]?=some (.cells cs T fr)→∃cs',w'.heap[w.heap.size]?=some (.cells cs' T fr) :=
  fun W hz=>yO w.heap.size w.heap.size (nD u) 32 u p W bW hz hlt hu64 aiP (by omega) (by omega) (by omega) (by omega)
 have SD:=ah SD
 have aqQ:=Xb u (nD u) (nD u)
 have HV:=ah (fun k hk=>(hb.1.lt k hk).2:∀k,v.ownBlock=some k→k<w.heap.size)
 have FT:=ah (fun q o=>ft.below ((fJ jc q).alloc bW o):∀q o,oQ ((w.drewN q).alloc o))
 have FW:=ah (fun W h=>ft.below h:∀W,RowKit.Below w.heap.size w W→oQ W)
 have HB0:=ah hb
 have EF:=ah (UZ neg B w.heap.size)
 clear hu hp hfc hL hMb hlt ft hb hm1 hm2
 generalize nz u (nD u) (nD u)=z at *
 generalize nD u=N at *
 go_enter func154,ntmps154
 go_wp2_with fail
 go_quiet (fail)
 go_big_wp2_with (first|(go_at_call 146;(with_reducible refine(EW.o _).mono ?_);rintro e1 w1 ⟨rfl,rfl⟩)|(go_at_call 191;(with_reducible refine(SH.o _ (FT.o _ _)).mono ?_);rintro e1 w1 ⟨rfl,hb1⟩;refine Hid.o ?_))
 refine ah ?_
 have hX:((w.drewN nq).alloc (.cells lq 266)).heap[w.heap.size]?=some (.cells lq 266 (0,0)):=heap_alloc_new _ _
 have hb1':RowKit.Below ((w.drewN nq).alloc (.cells lq 266)).heap.size ((w.drewN nq).alloc (.cells lq 266)) w1:=hb1
 clear hb1
 have hY:w1.heap[w.heap.size]?=some (.cells lq 266 (0,0)):=(hb1'.block _ (lt_of_block hX)).trans hX
 have HY:=ah hY
 have HZ:=ah (fun j hj=>⟨(aC hY j).trans (Hw j (by omega)),aK hY j⟩:∀j,j<N→w1.cell? ⟨w.heap.size,j,none⟩=some (.int .u8 0)∧w1.frozen? ⟨w.heap.size,j,none⟩=false)
 have hW1:RowKit.Below w.heap.size w w1:=((fJ jc nq).alloc bW _).trans (hb1'.mono (by simp))
 have HW1:=ah hW1
 have HO1:=ah (sO HB0.o w.heap.size HB0.o.2.2 HV.o hW1)
 clear hX hb1' hY hW1
 go_wp2_with fail
 go_region_with (first|(go_at_call 119;refine(NUM.o _ (FW.o _ (by first|exact HW1.o|exact fJ HW1.o _|exact(fJ HW1.o _).drew|exact HW1.o.drew))).mono ?_;rintro e1 w2 ⟨rfl,rfl⟩)|(go_at_call 186;refine(SD.o _ (fun j hj=>by simpa using HZ.o j hj)).mono ?_;rintro e1 w2 ⟨rfl,hc2,hb2,hk2⟩))
 have hb2':RowKit.Below w.heap.size w1 w2:=by
  first|exact hb2|exact⟨hb2.os,hb2.tape,hb2.output,hb2.size,hb2.block⟩
 obtain⟨cs',hcs⟩:=hk2 lq 266 (0,0) HY.o
 have FB2:FB B w.heap.size cs' (0,0) W0 v 0 [] w2:=⟨sO HO1.o w.heap.size HB0.o.2.2 HV.o hb2',hcs⟩
 have hds:∀j,j<z→cs'[j]?=some (.int .u8 ((dg u (N-1-j)).toNat:Int)):=fun j hj=>(aC hcs j).symm.trans (hc2 j (by omega))
 have HF:=ah FB2
 have HDS:=ah hds
 have EE:=ah (fun q=>EF.o cs' (0,0) W0 (w2.drewN q) v 0 [] (by omega) ⟨FB2.own.drewN q,FB2.kE⟩ z (by omega) (fun j=>((dg u (N-1-j)).toNat:Int)) hds ((N:Int)+p) (by omega) (by omega))
 clear FB2 hds hb2 hb2' hc2 hk2 hcs
 go_big_wp2_with (go_at_call 184;(refine(EE.o 0).mono ?_);rintro e1 w3 ⟨v3,rfl,hb3⟩)
 go_ret
 have h4:=hb3.own
 rw[Nat.zero_add,List.nil_append]at h4
 exact⟨v3,rfl,h4⟩
theorem aib (b:Nat) (neg:Bool) (ex mt:Int) (M L:Nat) (m e:Int) (R:Road b neg ex mt M L m e) (h0:(ex==0)=true) (B:Nat) (W0 w:World) (v:Value) (hb:OwnBuf B 5 v 0 [] W0 w) (ft:oQ w) :
  Calls prog 154 #[v,.float .f64 b,.int .u8 103,.int .i64 (-1)] w fun e1 w'=>∃v',e1=.returned v'∧OwnBuf B 5 v' (yL neg m e).length (intCells (yL neg m e)) W0 w':=by
 obtain⟨hb64,hneg,hex,hmt,h7,hr1,hr2,hM,hM0,hL,hL1,hL2,hMb,hm,hm1,hm2,he,he1,he2⟩:=R
 have hM':mt=M:=by
  rcases hM with ⟨_,h⟩|⟨h,_⟩
  ·exact h
  ·rw[h0]at h;cases h
 obtain rfl:ex=0:=by simpa using h0
 rw[if_pos rfl]at he
 have he:-1022-(64-(L:Int))-52=e:=by omega
 subst hM'
 clear hM h0 h7 hr1 hr2
 have abx:=fun w=>yj b w
 have EW:∀w,uQ 146 #[.int .u64 M] w (.int .i64 L):=fun w=>by
  have:=bits_Len64 (M:Int) w (by omega) (by omega)
  rw[show (M:Int).toNat=M by omega,hL]at this
  exact this.mono (by rintro e w' ⟨rfl,rfl⟩;exact⟨rfl,rfl⟩)
 have EW:=ah EW
 obtain⟨u,hu⟩:∃u:Nat,(Iw m e).1=u:=⟨(Iw m e).1.toNat,by have:=GU m e he1 he2;omega⟩
 obtain⟨p,hp⟩:∃p,(Iw m e).2=p:=⟨_,rfl⟩
 have hbd:=GU m e he1 he2
 rw[hu,hp]at hbd
 obtain⟨-,hu2,hp1,hp2⟩:=hbd
 have SH:∀W,oQ W→Calls prog 191 #[.int .u64 m,.int .i64 e] W fun e' w'=>e'=.returned (.tuple #[.int .u64 u,.int .i64 p])∧Below W.heap.size W w':=fun W hW=>by
  have:=JC m e hm1 hm2 he1 he2 W hW.pow hW.big
  rwa [hu,hp]at this
 have SH:=ah SH
 have hfc:yL neg m e=Ik neg (fun j=>((dg u (nD u-1-j)).toNat:Int)) (nz u (nD u) (nD u)) ((nD u:Int)+p):=by
  simp only[yL,hu,hp,show((u:Int)).toNat=u by omega]
 rw[hfc]
 have aiP:=acw u (by omega)
 have hlt:=ahi u
 have NUM:∀W,oQ W→uQ 119 #[.int .u64 u] W (.int .i64 (nD u)):=fun W hW=>amo u (by omega) W hW.p10
 have NUM:=ah NUM
 have hu64:u<18446744073709551616:=by omega
 have SD:∀W,(∀j,j<nD u→W.cell? ⟨w.heap.size,j,none⟩=some (.int .u8 0)∧W.frozen? ⟨w.heap.size,j,none⟩=false)→Calls prog 186 #[.slice (some ⟨w.heap.size,0,none⟩) 32 32,.int .u64 u,.int .i64 p,.int .i64 (nD u)] W fun e w'=>e=.returned (.tuple #[.int .i64 (nD u+p),.int .i64 (nz u (nD u) (nD u):Nat)]) ∧
   (∀j,j<nD u→w'.cell? ⟨w.heap.size,j,none⟩=some (aaH u (nD u) j))∧Below w.heap.size W w'∧∀cs T fr,W.heap[w.heap.size]?=some (.cells cs T fr)→∃cs',w'.heap[w.heap.size]?=some (.cells cs' T fr) :=
  fun W hz=>yO w.heap.size w.heap.size (nD u) 32 u p W bW hz hlt hu64 aiP (by omega) (by omega) (by omega) (by omega)
 have SD:=ah SD
 have aqQ:=Xb u (nD u) (nD u)
 have HV:=ah (fun k hk=>(hb.1.lt k hk).2:∀k,v.ownBlock=some k→k<w.heap.size)
 have FT:=ah (fun q o=>ft.below ((fJ jc q).alloc bW o):∀q o,oQ ((w.drewN q).alloc o))
 have FW:=ah (fun W h=>ft.below h:∀W,RowKit.Below w.heap.size w W→oQ W)
 have HB0:=ah hb
 have EF:=ah (UZ neg B w.heap.size)
 clear hu hp hfc hL hMb hlt ft hb hm1 hm2
 generalize nz u (nD u) (nD u)=z at *
 generalize nD u=N at *
 go_enter func154,ntmps154
 go_wp2_with fail
 go_quiet (fail)
 go_big_wp2_with (first|(go_at_call 146;(with_reducible refine(EW.o _).mono ?_);rintro e1 w1 ⟨rfl,rfl⟩)|(go_at_call 191;(with_reducible refine(SH.o _ (FT.o _ _)).mono ?_);rintro e1 w1 ⟨rfl,hb1⟩;refine Hid.o ?_))
 refine ah ?_
 have hX:((w.drewN nq).alloc (.cells lq 266)).heap[w.heap.size]?=some (.cells lq 266 (0,0)):=heap_alloc_new _ _
 have hb1':RowKit.Below ((w.drewN nq).alloc (.cells lq 266)).heap.size ((w.drewN nq).alloc (.cells lq 266)) w1:=hb1
 clear hb1
 have hY:w1.heap[w.heap.size]?=some (.cells lq 266 (0,0)):=(hb1'.block _ (lt_of_block hX)).trans hX
 have HY:=ah hY
 have HZ:=ah (fun j hj=>⟨(aC hY j).trans (Hw j (by omega)),aK hY j⟩:∀j,j<N→w1.cell? ⟨w.heap.size,j,none⟩=some (.int .u8 0)∧w1.frozen? ⟨w.heap.size,j,none⟩=false)
 have hW1:RowKit.Below w.heap.size w w1:=((fJ jc nq).alloc bW _).trans (hb1'.mono (by simp))
 have HW1:=ah hW1
 have HO1:=ah (sO HB0.o w.heap.size HB0.o.2.2 HV.o hW1)
 clear hX hb1' hY hW1
 go_wp2_with fail
 go_region_with (first|(go_at_call 119;refine(NUM.o _ (FW.o _ (by first|exact HW1.o|exact fJ HW1.o _|exact(fJ HW1.o _).drew|exact HW1.o.drew))).mono ?_;rintro e1 w2 ⟨rfl,rfl⟩)|(go_at_call 186;refine(SD.o _ (fun j hj=>by simpa using HZ.o j hj)).mono ?_;rintro e1 w2 ⟨rfl,hc2,hb2,hk2⟩))
 have hb2':RowKit.Below w.heap.size w1 w2:=by
  first|exact hb2|exact⟨hb2.os,hb2.tape,hb2.output,hb2.size,hb2.block⟩
 obtain⟨cs',hcs⟩:=hk2 lq 266 (0,0) HY.o
 have FB2:FB B w.heap.size cs' (0,0) W0 v 0 [] w2:=⟨sO HO1.o w.heap.size HB0.o.2.2 HV.o hb2',hcs⟩
 have hds:∀j,j<z→cs'[j]?=some (.int .u8 ((dg u (N-1-j)).toNat:Int)):=fun j hj=>(aC hcs j).symm.trans (hc2 j (by omega))
 have HF:=ah FB2
 have HDS:=ah hds
 have EE:=ah (fun q=>EF.o cs' (0,0) W0 (w2.drewN q) v 0 [] (by omega) ⟨FB2.own.drewN q,FB2.kE⟩ z (by omega) (fun j=>((dg u (N-1-j)).toNat:Int)) hds ((N:Int)+p) (by omega) (by omega))
 clear FB2 hds hb2 hb2' hc2 hk2 hcs
 go_big_wp2_with (go_at_call 184;(refine(EE.o 0).mono ?_);rintro e1 w3 ⟨v3,rfl,hb3⟩)
 go_ret
 have h4:=hb3.own
 rw[Nat.zero_add,List.nil_append]at h4
 exact⟨v3,rfl,h4⟩
section
theorem O6 (n:Int):bits .and .i64 n 2047=n%2048:=by
 have h1:(BitVec.ofInt 64 2047).toNat=2^11-1:=by decide
 have key:(BitVec.ofInt 64 n &&& BitVec.ofInt 64 2047).toNat=(n%((2^64:Nat):Int)).toNat%2^11:=by
  rw[BitVec.toNat_and,BitVec.toNat_ofInt,h1,Nat.and_two_pow_sub_one_eq_mod]
 show IntKind.i64.wrap ((BitVec.ofInt 64 n &&& BitVec.ofInt 64 2047).toNat:Nat)=n%2048
 rw[key,IntKind.wrap_i64]
 omega
def CZ (b:Nat):Bool:=(b:Int)/9223372036854775808 != 0
def Qq (b:Nat):Nat:=b/4503599627370496%2048
def NT (b:Nat):Nat:=b%4503599627370496
def fM (b:Nat):Nat:=if Qq b=0 then NT b else NT b+4503599627370496
def fL (b:Nat):Nat:=Lib.bitLen (fM b)
def fm (b:Nat):Int:=IntKind.u64.wrap ((fM b:Int)*2^(64-fL b))
def fe (b:Nat):Int:=(if(Qq b:Int)=0 then 1 else(Qq b:Int))+-1023-(64-(fL b:Int))-52
theorem SA (b:Nat):bits .and .i64 ((b:Int)/4503599627370496) 2047=(Qq b:Int):=by
 rw[O6];unfold Qq;omega
theorem SE (b:Nat) (h:b<18446744073709551616):bits .and .u64 (b:Int) 4503599627370495=(NT b:Int):=by
 have:=u64_and_nat b 4503599627370495 h (by omega)
 rw[show ((4503599627370495:Nat):Int)=4503599627370495 from rfl]at this
 rw[this]
 have:=Nat.and_two_pow_sub_one_eq_mod b 52
 unfold NT
 rw[show (4503599627370495:Nat)=2^52-1 from rfl,this]
theorem alV (b:Nat):bits .or .u64 (NT b:Int) 4503599627370496=((NT b+4503599627370496:Nat):Int):=by
 have hl:NT b<2^52:=Nat.mod_lt _ (by decide)
 have:=u64_or_nat (NT b) 4503599627370496 (by omega) (by omega)
 rw[show ((4503599627370496:Nat):Int)=4503599627370496 from rfl]at this
 rw[this]
 have h2:=Nat.two_pow_add_eq_or_of_lt hl 1
 rw[show 2^52*1=4503599627370496 from rfl]at h2
 rw[Nat.or_comm,←h2,Nat.add_comm]
theorem amr (b:Nat) (hb:b<18446744073709551616) (h7:Qq b≠2047) (h0:fM b≠0):Road b (CZ b) (Qq b) (NT b) (fM b) (fL b) (fm b) (fe b):=by
 have hmt:NT b<4503599627370496:=Nat.mod_lt _ (by decide)
 have aqj:fM b<2^53:=by unfold fM;split<;>omega
 have hex:Qq b<2048:=Nat.mod_lt _ (by decide)
 obtain⟨l1,l2,l3⟩:=bitLenAux_bounds 64 (fM b) (by omega) h0
 have hL1:1≤fL b:=l1
 have hL2:fL b≤53:=Lib.bitLen_le (fM b) 53 (by omega) aqj
 have e1:2^(fL b-1)≤fM b:=l2
 have e2:fM b<2^fL b:=l3
 have p1:2^(fL b-1)*2^(64-fL b)=9223372036854775808:=by rw[←Nat.pow_add,show fL b-1+(64-fL b)=63 by omega]
 have p2:2^(fL b)*2^(64-fL b)=18446744073709551616:=by rw[←Nat.pow_add,show fL b+(64-fL b)=64 by omega]
 have q1:9223372036854775808≤fM b*2^(64-fL b):=by rw[←p1];exact Nat.mul_le_mul_right _ e1
 have q2:fM b*2^(64-fL b)<18446744073709551616:=by rw[←p2];exact Nat.mul_lt_mul_of_pos_right e2 (Nat.two_pow_pos _)
 have hfm:fm b=((fM b*2^(64-fL b):Nat):Int):=by
  unfold fm
  rw[show (fM b:Int)*2^(64-fL b)=((fM b*2^(64-fL b):Nat):Int) by push_cast;rfl,IntKind.wrap_u64]
  omega
 refine⟨hb,rfl,SA b,SE b hb,?_,by omega,by omega,?_,?_,rfl,by omega,by omega,by omega,rfl,by rw[hfm];omega,by rw[hfm];omega,rfl,?_,?_⟩
 ·simp;omega
 ·by_cases he:Qq b=0
  ·exact .inl ⟨by rw[he];rfl,by unfold fM;rw[if_pos he]⟩
  ·exact .inr ⟨by simp;omega,by unfold fM;rw[if_neg he];exact alV b⟩
 ·simp;omega
 ·unfold fe;split<;>omega
 ·unfold fe;split
  ·omega
  ·
   rename_i hne
   have hne':Qq b≠0:=by omega
   have hg:4503599627370496≤fM b:=by unfold fM;rw[if_neg hne'];omega
   have:53≤fL b:=by
    rcases Nat.lt_or_ge (fL b) 53 with hlt|hge
    ·have:2^fL b≤2^52:=Nat.pow_le_pow_right (by decide) (by omega)
     omega
    ·exact hge
   omega
def Ye (b:Nat):List Int :=
 if Qq b=2047 then(if NT b≠0 then[78,97,78]else if CZ b then[45,73,110,102]else[43,73,110,102])
 else if fM b=0 then(if CZ b then[45,48]else[48])
 else yL (CZ b) (fm b) (fe b)
theorem alO (neg:Bool) (B:Nat) (W0 w:World) (v:Value) (n:Nat) (xs:List Value) (hn:n≤100) (hb:OwnBuf B 5 v n xs W0 w) :
  Calls prog 184 #[v,.bool neg,.slice none 0 0,.int .i64 0,.int .i64 0,.int .i64 (-1),.int .u8 103,.bool true] w fun e w'=>∃v',e=.returned v'∧OwnBuf B 5 v' (n+(if neg then 2 else 1)) (xs++(if neg then[Value.int .u8 45,Value.int .u8 48]else[Value.int .u8 48])) W0 w':=by
 obtain⟨i0,hi,hz0,hz1,hz2⟩:=info_parts O9
 cases neg
 all_goals
  go_enter func184,ntmps184
  go_big_wp2_with (at_builtin;(refine wpList_append_byte rfl _ _ 65 rfl B 5 i0 underlying65 hi hz0 hz1 hz2 _ _ _ rfl W0 _ _ (by assumption) rfl (by omega) ?_;intro _ _ hb))
  go_ret
  exact⟨_,rfl,by simpa[Nat.add_assoc]using hb⟩
section
variable (B:Nat) (W0 w:World) (v:Value)
theorem aeG (b:Nat) (hb64:b<18446744073709551616) (h7:Qq b≠2047) (h0:fM b=0) (hb:OwnBuf B 5 v 0 [] W0 w) :
  Calls prog 154 #[v,.float .f64 b,.int .u8 103,.int .i64 (-1)] w fun e1 w'=>∃v',e1=.returned v'∧OwnBuf B 5 v' (if CZ b then[45,48]else[48]:List Int).length (intCells (if CZ b then[45,48]else[48])) W0 w':=by
 have hex:=SA b
 have hmt:=SE b hb64
 have e0:Qq b=0:=by unfold fM at h0;split at h0<;>omega
 have m0:NT b=0:=by unfold fM at h0;rw[if_pos e0]at h0;exact h0
 rw[e0]at hex
 rw[m0]at hmt
 have abx:=fun w=>yj b w
 have FN:=ah (fun q=>alO (CZ b) B W0 (w.drewN q) v 0 [] (by omega) (hb.drewN q))
 have hneg:((b:Int)/9223372036854775808 != 0)=CZ b:=rfl
 have hex:bits .and .i64 ((b:Int)/4503599627370496) 2047=0:=hex
 have hmt:bits .and .u64 (b:Int) 4503599627370495=0:=hmt
 generalize CZ b=neg at *
 clear h7 h0 e0 m0 hb
 cases neg
 ·go_enter func154,ntmps154
  go_wp2_with fail
  go_quiet (fail)
  go_big_wp2_with (go_at_call 184;(refine(FN.o _).mono ?_);rintro e1 w3 ⟨v3,rfl,hb3⟩;refine Hid.o ?_)
  refine ah ?_
  have hb4:OwnBuf B 5 v3 _ _ W0 w3:=hb3
  clear hb3
  go_wp2
  go_ret
  exact⟨v3,rfl,by simpa[intCells]using hb4⟩
 ·go_enter func154,ntmps154
  go_wp2_with fail
  go_quiet (fail)
  go_big_wp2_with (go_at_call 184;(refine(FN.o _).mono ?_);rintro e1 w3 ⟨v3,rfl,hb3⟩;refine Hid.o ?_)
  refine ah ?_
  have hb4:OwnBuf B 5 v3 _ _ W0 w3:=hb3
  clear hb3
  go_wp2
  go_ret
  exact⟨v3,rfl,by simpa[intCells]using hb4⟩
theorem ah9 (b:Nat) (hb64:b<18446744073709551616) (h7:Qq b=2047) (hb:OwnBuf B 5 v 0 [] W0 w) :
  Calls prog 154 #[v,.float .f64 b,.int .u8 103,.int .i64 (-1)] w fun e1 w'=>∃v',e1=.returned v'∧OwnBuf B 5 v' (if NT b≠0 then[78,97,78]else if CZ b then[45,73,110,102]else[43,73,110,102]:List Int).length (intCells (if NT b≠0 then[78,97,78]else if CZ b then[45,73,110,102]else[43,73,110,102])) W0 w':=by
 obtain⟨i0,hi,hz0,hz1,hz2⟩:=info_parts O9
 have hex:=SA b
 have hmt:=SE b hb64
 rw[h7]at hex
 have abx:=fun w=>yj b w
 have hneg:((b:Int)/9223372036854775808 != 0)=CZ b:=rfl
 have hex:bits .and .i64 ((b:Int)/4503599627370496) 2047=2047:=hex
 have HO:=ah (fun q=>hb.drewN q)
 generalize CZ b=neg at *
 clear h7 hb
 by_cases hm:NT b≠0
 ·rw[if_pos hm]
  have hmz:((NT b:Int) != 0)=true:=by simp;omega
  generalize NT b=mt at *
  clear hm
  go_enter func154,ntmps154
  go_wp2_with fail
  go_quiet (fail)
  go_big_wp2_with (at_builtin;(refine wpList_append_text rfl _ _ 65 9 rfl B 5 i0 underlying65 underlying9 hi hz0 hz1 hz2 _ _ _ rfl W0 (HO.o _) _ rfl (by decide) ?_;intro _ _ hb))
  go_ret
  exact⟨_,rfl,hb⟩
 ·rw[if_neg hm]
  have hmz:NT b=0:=by omega
  rw[hmz]at hmt
  have hmt:bits .and .u64 (b:Int) 4503599627370495=0:=hmt
  clear hm hmz
  cases neg
  ·go_enter func154,ntmps154
   go_wp2_with fail
   go_quiet (fail)
   go_big_wp2_with (at_builtin;(refine wpList_append_text rfl _ _ 65 9 rfl B 5 i0 underlying65 underlying9 hi hz0 hz1 hz2 _ _ _ rfl W0 (HO.o _) _ rfl (by decide) ?_;intro _ _ hb))
   go_ret
   exact⟨_,rfl,hb⟩
  ·go_enter func154,ntmps154
   go_wp2_with fail
   go_quiet (fail)
   go_big_wp2_with (at_builtin;(refine wpList_append_text rfl _ _ 65 9 rfl B 5 i0 underlying65 underlying9 hi hz0 hz1 hz2 _ _ _ rfl W0 (HO.o _) _ rfl (by decide) ?_;intro _ _ hb))
   go_ret
   exact⟨_,rfl,hb⟩
theorem ah8 (b:Nat) (hb64:b<18446744073709551616) (hb:OwnBuf B 5 v 0 [] W0 w) (ft:oQ w) :
  Calls prog 154 #[v,.float .f64 b,.int .u8 103,.int .i64 (-1)] w fun e1 w'=>∃v',e1=.returned v'∧OwnBuf B 5 v' (Ye b).length (intCells (Ye b)) W0 w':=by
 unfold Ye
 by_cases h7:Qq b=2047
 ·rw[if_pos h7];exact ah9 B W0 w v b hb64 h7 hb
 ·rw[if_neg h7]
  by_cases h0:fM b=0
  ·rw[if_pos h0];exact aeG B W0 w v b hb64 h7 h0 hb
  ·rw[if_neg h0]
   have R:=amr b hb64 h7 h0
   by_cases he:Qq b=0
   ·exact aib b _ _ _ _ _ _ _ R (by rw[he];rfl) B W0 w v hb ft
   ·exact aia b _ _ _ _ _ _ _ R (by simp;omega) B W0 w v hb ft
end
end
theorem OA {B n:Nat} {v:Value} {l:List Int} {W0 w:World} (h:OwnBuf B 5 v n (intCells l) W0 w):(convert 65 9 v).run prog w=.ok (.string (strOfNums l)) w:=by
 obtain⟨⟨hl,hr⟩,_,_⟩:=h
 rcases hr with ⟨rfl,rfl⟩|⟨g,cap,cur,fz,rfl,hB,hg,h1,h2,h3,h4,h5⟩
 ·have:l=[]:=by simpa[intCells]using hl
  subst this
  exact run_convert_bytes_nil w 65 5 underlying65 underlying5 0 0 9 underlying9
 ·have hn:l.length=n:=by simpa[intCells]using hl
  refine run_convert_bytes_arg w 65 5 underlying65 underlying5 g 0 n cap l hn (fun i hi=>?_) 9 underlying9
  have hc:=World.ownsRowF.cells (w:=w) (base:=B) (e:=5) (size:=1) (v:=.slice (some ⟨g,0,none⟩) n cap) (n:=n) (xs:=intCells l) ⟨hl,.inr ⟨g,cap,cur,fz,rfl,hB,hg,h1,h2,h3,h4,h5⟩⟩ (g:=g) rfl i (.int .u8 (l.getD i 0)) (by simp[intCells,wC,gQ (show i<l.length by omega)])
  rw[Lib.add_plain]at hc
  exact hc
def OH (b:Nat):bG:=strOfNums (Ye b)
theorem KL (b:Nat) (hb64:b<18446744073709551616) (w:World) (ft:oQ w) :
  fC 131 #[.float .f64 b,.int .u8 103,.int .i64 (-1),.int .i64 64] w (.string (OH b)):=by
 have OB:OwnBuf w.heap.size 5 (.slice (some ⟨w.heap.size,0,none⟩) 0 24) 0 [] w (w.alloc (.cells zeros24 5)) :=
  ⟨⟨rfl,.inr ⟨w.heap.size,24,zeros24,(0,0),rfl,bW,heap_alloc_new w _,by decide,by omega,by unfold maxLen;omega,rfl,rfl⟩⟩,gG _,by simp⟩
 have FF:=ah (ah8 w.heap.size w (w.alloc (.cells zeros24 5)) (.slice (some ⟨w.heap.size,0,none⟩) 0 24) b hb64 OB (ft.below (gG _)))
 clear OB ft
 have hmk:∀w:World,(Instr.makeSlice 65 (.int .i64 0) (.int .i64 (max 3 24))).run prog w=.ok (.slice (some ⟨w.heap.size,0,none⟩) 0 24) (w.alloc (.cells zeros24 5)):=fun _=>by kernel_rfl
 go_enter func131,ntmps131
 go_wp2_with (go_at_call 154;refine FF.o.mono ?_;rintro e1 w1 ⟨v1,rfl,hb1⟩;have hcv:=OA hb1;have HB:=aj.mk hb1.2.1;clear hb1)
 go_ret
 exact⟨rfl,HB.o⟩
theorem OO (b:Nat) (hb64:b<18446744073709551616) (w:World) (ft:oQ w) :
  fC 108 #[.float .f64 b,.int .u8 103,.int .i64 (-1),.int .i64 64] w (.string (OH b)):=by
 have FF:=ah (KL b hb64 w ft)
 clear ft
 go_enter func108,ntmps108
 go_wp2_with (go_at_call 131;refine FF.o.mono ?_;rintro e1 w1 ⟨rfl,hb1⟩;have HB:=aj.mk hb1;clear hb1)
 go_ret
 exact⟨rfl,HB.o⟩
def S9 (b:Nat):Bool:=FloatKind.f64.format.order b 9218868437227405311==some .gt
theorem isInf (b:Nat) (w:World):uQ 107 #[.float .f64 b,.int .i64 1] w (.bool (S9 b)):=by
 go_enter func107,ntmps107
 go_wp2
 go_ret
 exact⟨rfl,rfl⟩
def Bz (b:Nat):bG:=if S9 b then⟨#[43,73,110,102]⟩else OH b
theorem acU (b:Nat) (hb64:b<18446744073709551616) (w:World) (ft:oQ w) :
  fC 75 #[.iface 85 (.float .f64 b)] w (.string (Bz b)):=by
 have FF:=ah (OO b hb64 w ft)
 have II:=ah (isInf b)
 clear ft
 unfold Bz
 cases hi:S9 b
 ·have II2:=ah (fun w=>(hi▸II.o w:uQ 107 #[.float .f64 b,.int .i64 1] w (.bool false)))
  clear hi II
  go_enter func75,ntmps75
  go_wp2_with (first|(go_at_call 107;refine(II2.o _).mono ?_;rintro e1 w1 ⟨rfl,rfl⟩)|(go_at_call 108;refine FF.o.mono ?_;rintro e1 w1 ⟨rfl,hb1⟩;have HB:=aj.mk hb1;clear hb1))
  go_ret
  exact⟨rfl,HB.o⟩
 ·have II2:=ah (fun w=>(hi▸II.o w:uQ 107 #[.float .f64 b,.int .i64 1] w (.bool true)))
  clear hi II
  go_enter func75,ntmps75
  go_wp2_with (go_at_call 107;refine(II2.o _).mono ?_;rintro e1 w1 ⟨rfl,rfl⟩)
  go_ret
  exact⟨rfl,jc⟩
theorem zf {c:Prop} [Decidable c] {a b:List Int} {n:Nat} (ha:a.length≤n) (hb:b.length≤n):(if c then a else b).length≤n:=by split<;>assumption
theorem RS (x:Int):(vG x).length≤4:=by
 unfold vG
 dsimp only
 rw[d_]
 exact Nat.succ_le_succ (zf (by simp) (zf (by simp) (by simp)))
theorem abo (neg:Bool) (ds:Nat→Int) (nd:Nat) (dp:Int) (h:nd≤20):(Ik neg ds nd dp).length≤64:=by
 have h0:(if neg then[45]else[]:List Int).length≤1:=zf (by simp) (by simp)
 unfold Ik
 split
 ·unfold yA
  have:=RS (if nd=0 then 0 else dp-1)
  have h2:(if nd=0 then[48]else[ds 0]:List Int).length≤1:=zf (by simp) (by simp)
  have h3:(if 2≤nd then 46::((List.range (nd-1)).map fun j=>ds (1+j))else[]:List Int).length≤20:=by
   by_cases h2:2≤nd
   ·rw[if_pos h2];simp;omega
   ·rw[if_neg h2];simp
  simp only[dY,d_,kW]at *
  omega
 ·rename_i hx
  have h1:dp.toNat≤6:=by omega
  have h5:(-dp).toNat≤3:=by omega
  rw[dY]
  have:∀l:List Int,l.length≤60→(if neg then[45]else[]:List Int).length+l.length≤64:=fun l hl=>by omega
  refine this _ (zf (zf ?_ ?_) (zf ?_ ?_))
  ·simp;omega
  ·simp;omega
  ·simp
  ·simp;omega
theorem YS (b:Nat) (h:b<18446744073709551616):(Bz b).size≤64:=by
 unfold Bz
 split
 ·decide
 ·unfold OH
  rw[strOfNums_size]
  unfold Ye
  split
  ·split
   ·decide
   ·split<;>decide
  ·split
   ·split<;>decide
   ·unfold yL
    rename_i h7 h0
    have R:=amr b h h7 h0
    have hb:=GU (fm b) (fe b) R.he1 R.he2
    exact abo _ _ _ _ (Nat.le_trans (Xb _ _ _) (acw _ (by omega)))
end Go.Proofs.YtllcccekodcdmaaGreatDoor.Fl
