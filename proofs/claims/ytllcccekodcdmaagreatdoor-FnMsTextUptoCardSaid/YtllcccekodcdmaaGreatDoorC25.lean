import Derived.Test.YtllcccekodcdmaaGreatDoorC22
set_option linter.unusedVariables false
set_option linter.unusedSimpArgs false
set_option maxRecDepth 100000
set_option maxHeartbeats 32000000
open Go.Proofs.Tryz
namespace Go.Proofs.YtllcccekodcdmaaGreatDoor.Ms
open Go Go.RowKit Go.Proofs.ak.aT Go.Proofs.ak.cO Go.Proofs.YtllcccekodcdmaaGreatDoor.bK
theorem Tz (o r:Value) (fa:Option Addr) (fl fc:Nat) (q:Nat) (w:World) :
  Calls prog 173 #[.iface 142 o,.int .i64 q,.iface 160 r,.slice fa fl fc] w fun e w'=>e=.returned (.pointer (some ⟨w.heap.size,0,none⟩))∧w'.heap[w.heap.size]?=some (.cells #[.iface 142 o,.slice fa fl fc,.iface 160 r,.int .i64 q] 220 (0,0))∧Below w.heap.size w w':=by
 go_enter func173,ntmps173
 go_wp2
 go_ret
 exact⟨rfl,aV _ _ _ rfl,gG _⟩
theorem En.fresh {W w':World} (fa:Option Addr) (fl fc q:Nat) (hq:q≤800000000) (h1:w'.heap[W.heap.size+1]?=some (.cells #[.iface 142 (.pointer (some ⟨W.heap.size,0,none⟩)),.slice fa fl fc,.iface 160 (.agg #[]),.int .i64 q] 220 (0,0)))
  (h2:Below (W.alloc (.cells #[.slice none 0 0,.int .i64 0,.int .i8 0] 151)).heap.size (W.alloc (.cells #[.slice none 0 0,.int .i64 0,.int .i8 0] 151)) w'):En (W.heap.size+1) W.heap.size ⟨fa,fl,fc,q⟩ 0 W w' :=
 ⟨⟨q,by simp,h1⟩,⟨[],by simp,(Lib.fresh_isBuffer 151 5 W).old h2⟩,(gG _).trans (h2.mono (by simp)),bW,Nat.lt_succ_self _,hq⟩
theorem En.other {E B M k i:Nat} {F:EF} {W0 w:World} {c:Array Value} {fz:Nat×Nat} (h:En E B F M W0 w) (hk:w.heap[k]?=some (.cells c 151 fz)) (hkB:k≠B) (hW:W0.heap.size≤k) (v:Value):En E B F M W0 (w.setCell ⟨k,i,none⟩ v):=by
 obtain⟨⟨p,hp,he⟩,⟨l,hl,hB,v1,lr,hbk,hown,hne⟩,hbel,hle,hlt,hkb⟩:=h
 have hkE:E≠k:=by rintro rfl;rw[hk]at he;simp at he
 have hs:∀j,j≠k→(w.setCell ⟨k,i,none⟩ v).heap[j]?=w.heap[j]?:=fun j hj=>ku _ _ _ _ hj
 refine⟨⟨p,hp,(hs _ hkE).trans he⟩,⟨l,hl,hB,v1,lr,(hs _ (fun e=>hkB e.symm)).trans hbk,⟨hown.1,?_⟩,hne⟩,hbel.setCell (p:=⟨k,i,none⟩) hW _,hle,hlt,hkb⟩
 rcases hown.2 with hn|⟨g,cap,cur,hv,h0,hg,rest⟩
 ·exact .inl hn
 ·refine .inr ⟨g,cap,cur,hv,h0,(hs g ?_).trans hg,rest⟩
  rintro rfl
  rw[hk]at hg
  simp at hg
theorem lG {w w1:World} (h:∃m,w1=w.drewN m):Below w.heap.size w w1:=by
 exact(iD.mk h).below
theorem Fr.other {E B k i:Nat} {w0 w:World} (h:Fr E B w0 w) (hk:w0.heap.size≤k) (hB:B<w0.heap.size) (v:Value):Fr E B w0 (w.setCell ⟨k,i,none⟩ v) :=
 ⟨h.1.setCell (p:=⟨k,i,none⟩) (by show B≤k;omega) _,fun j o ho a b c=>(ku _ _ _ _ (by have:=lt_of_block ho;show j≠k;omega)).trans (h.2 j o ho a b c),fun j =>
   ⟨fun h1 h2 h3 h4=>(ku _ _ _ _ (by show j≠k;omega)).trans ((h.row j).1 h1 h2 h3 h4),fun ho=>(h.row j).2 (ho.keep (ku _ _ _ _ (by show B≠k;omega)))⟩⟩
theorem wS (B2:Nat) (A:Option Addr) (o lr:Int) (n c:Nat) (hnc:n≤c) (w:World) (h:w.heap[B2]?=some (.cells #[.slice A n c,.int .i64 o,.int .i8 lr] 151 (0,0))) :
  Calls prog 85 #[.pointer (some ⟨B2,0,none⟩)] w fun e w'=>e=.returned (.tuple #[])∧w'=((w.setCell ⟨B2,0,none⟩ (.slice A 0 c)).setCell ⟨B2,1,none⟩ (.int .i64 0)).setCell ⟨B2,2,none⟩ (.int .i8 0):=by
 have c0:=au h 0 (v:=.slice A n c) rfl
 have c1:=au h 1 (v:=.int .i64 o) rfl
 have c2:=au h 2 (v:=.int .i8 lr) rfl
 have f0:=aI h 0
 have f1:=aI h 1
 have f2:=aI h 2
 go_enter func85,ntmps85
 go_wp2
 go_end0
 exact⟨rfl,rfl⟩
structure Fe (E B:Nat) (w0 ws w:World):Prop where
 fr:Fr E B w0 w
 ee:w.heap[E]?=ws.heap[E]?
theorem Fe.other {E B k i:Nat} {w0 ws w:World} (h:Fe E B w0 ws w) (hk:w0.heap.size≤k) (hB:B<w0.heap.size) (hkE:k≠E) (v:Value):Fe E B w0 ws (w.setCell ⟨k,i,none⟩ v) :=
 ⟨h.fr.other hk hB v,(ku _ _ _ _ (Ne.symm hkE)).trans h.ee⟩
theorem Fe.below {E B M:Nat} {F:EF} {W0 w0 ws w w':World} (h:Fe E B w0 ws w) (hb:Below w.heap.size w w') (hen:En E B F M W0 w):Fe E B w0 ws w':=by
 obtain⟨p,_,he⟩:=hen.enc
 exact⟨h.fr.trans (Fr.below hb hen.size),(hb.block _ (lt_of_block he)).trans h.ee⟩
theorem zi {E B M B2:Nat} {F:EF} {W0 w:World} {P:World→Prop} {x y z:Value} (h:En E B F M W0 w) (hf:P w) (hset:∀w i v,P w→P (w.setCell ⟨B2,i,none⟩ v)) (hbk:w.heap[B2]?=some (.cells #[x,y,z] 151 (0,0))) (hkB:B2≠B) (hW:W0.heap.size≤B2) (a b c:Value) :
  En E B F M W0 (((w.setCell ⟨B2,0,none⟩ a).setCell ⟨B2,1,none⟩ b).setCell ⟨B2,2,none⟩ c)∧P (((w.setCell ⟨B2,0,none⟩ a).setCell ⟨B2,1,none⟩ b).setCell ⟨B2,2,none⟩ c):=by
 have h1:=Joins.block_setCell hbk (i:=0) a
 have h2:=Joins.block_setCell h1 (i:=1) b
 exact⟨((h.other hbk hkB hW a).other h1 hkB hW b).other h2 hkB hW c,hset _ _ _ (hset _ _ _ (hset _ _ _ hf))⟩
theorem YH (B:Nat) (w:World):(nilAhead 443 142 (.pointer (some ⟨B,0,none⟩)) "Write").run prog w=.ok (some false) w:=by kernel_rfl
theorem Ec {E B M B2:Nat} {F:EF} {W0 w:World} {P:World→Prop} (l:List UInt8) (h:En E B F M W0 w) (hf:P w) (hset:∀w i v,P w→P (w.setCell ⟨B2,i,none⟩ v)) (ag9:∀M w w',En E B F M W0 w→P w→Below w.heap.size w w'→P w')
  (hwr:∀w w',P w→Fr E B w w'→w'.heap[E]?=w.heap[E]?→P w') (hkB:B2≠B) (hW:W0.heap.size≤B2) (hbuf:Lib.IsBuffer 151 5 B2 B2 (Lib.byteCells l) w) (hl:l.length≤1000000000) (hM:M+l.length≤1000000000) :
  Calls prog 144 #[.pointer (some ⟨B2,0,none⟩),.iface 142 (.pointer (some ⟨B,0,none⟩))] w fun e w'=>e=.returned (.tuple #[.int .i64 l.length,.nilIface])∧En E B F (M+l.length) W0 w'∧P w':=by
 have HST:=ah hset
 have Eo:=ah ag9
 have HWR:=ah hwr
 clear hset ag9 hwr
 obtain⟨-,lr,hc⟩:=hbuf.cases
 rcases hc with ⟨hnil,hbk⟩|⟨g,cap,cur,hbk,hBg,hg,hnc,hcm,hcs,htk,hgb⟩
 ·have hl0:l=[]:=by
   have:=congrArg List.length hnil
   rw[Lib.byteCells_length]at this
   exact List.length_eq_zero_iff.1 this
  subst hl0
  have hb1:(w.setCell ⟨B2,2,none⟩ (.int .i8 0)).heap[B2]?=some (.cells #[.slice none 0 0,.int .i64 0,.int .i8 0] 151 (0,0)):=Joins.block_setCell hbk _
  have I1:Lib.IsBuffer 151 5 B2 B2 (Lib.byteCells []) (w.setCell ⟨B2,2,none⟩ (.int .i8 0)):=⟨bW,.slice none 0 0,0,hb1,⟨by simp[Lib.byteCells],.inl ⟨rfl,rfl⟩⟩,by simp[Value.ownBlock]⟩
  have c0:=au hbk 0 (v:=.slice none 0 0) rfl
  have c2:=au hbk 2 (v:=.int .i8 lr) rfl
  have f2:=aI hbk 2
  have yC:=ah (h.other (i:=2) hbk hkB hW (.int .i8 0))
  have zu:=ah (HST.o w 2 (.int .i8 0) hf)
  have EW:=ah (Tryz.Buffer_Len B2 B2 (Lib.byteCells []) _ I1)
  have HB1:=ah hb1
  have HK:=ah (⟨hkB,hW⟩:B2≠B∧W0.heap.size≤B2)
  clear hb1 I1 hbuf h hf hbk hkB hW hnil
  go_enter func144,ntmps144
  go_wp2_with (first
   |(go_at_call 134;refine EW.o.mono ?_;rintro e w1 ⟨rfl,hw1⟩;have hbl:Below (w.setCell ⟨B2,2,none⟩ (.int .i8 0)).heap.size (w.setCell ⟨B2,2,none⟩ (.int .i8 0)) w1:=lG hw1;have zu:=ah (Eo.o _ _ _ yC.o zu.o hbl);have yC:=ah (yC.o.old hbl);have HB1:=ah ((hbl.block _ (lt_of_block HB1.o)).trans HB1.o);clear hw1 hbl)
   |(go_at_call 85;refine(wS B2 _ 0 0 0 0 (jf _) _ HB1.o).mono ?_;rintro e w2 ⟨rfl,hw2⟩;have hr:=zi yC.o zu.o HST.o HB1.o HK.o.1 HK.o.2 (.slice none 0 0) (.int .i64 0) (.int .i8 0);rw[←hw2]at hr;have HR:=ah hr;clear hw2 hr))
  go_ret2
  exact⟨rfl,HR.o.1,HR.o.2⟩
 ·rw[Lib.byteCells_length]at hbk hnc htk
  obtain⟨n,hn⟩:∃n,l.length=n:=⟨_,rfl⟩
  rw[hn]at hbk hnc htk hl hM ⊢
  have c0:=au hbk 0 (v:=.slice (some ⟨g,0,none⟩) n cap) rfl
  have c1:=au hbk 1 (v:=.int .i64 0) rfl
  have c2:=au hbk 2 (v:=.int .i8 lr) rfl
  have f0:=aI hbk 0
  have f1:=aI hbk 1
  have f2:=aI hbk 2
  have hkE:B2≠E:=by rintro rfl;obtain⟨p,_,he⟩:=h.enc;rw[hbk]at he;simp at he
  have JZ:=ah hkE
  clear hkE
  have hgB:g≠B:=by rintro rfl;obtain⟨l2,_,_,v2,lr2,hbk2,_⟩:=h.buf;rw[hg]at hbk2;simp at hbk2
  have hg1:(w.setCell ⟨B2,2,none⟩ (.int .i8 0)).heap[g]?=some (.cells cur 5 (0,0)):=(ku _ _ _ _ hgb).trans hg
  have hb1:(w.setCell ⟨B2,2,none⟩ (.int .i8 0)).heap[B2]?=some (.cells #[.slice (some ⟨g,0,none⟩) n cap,.int .i64 0,.int .i8 0] 151 (0,0)):=Joins.block_setCell hbk _
  have I1:Lib.IsBuffer 151 5 B2 B2 (Lib.byteCells l) (w.setCell ⟨B2,2,none⟩ (.int .i8 0)):=by
   obtain⟨hBB,v,lr2,hbk2,hown,hne⟩:=hbuf
   rw[hbk]at hbk2
   have hv:v=.slice (some ⟨g,0,none⟩) n cap:=by simp at hbk2;exact hbk2.1.symm
   refine⟨hBB,v,0,by rw[hv];exact hb1,⟨hown.1,?_⟩,hne⟩
   rcases hown.2 with hn|⟨g3,cap3,ahX,hv3,h0,hg3,rest⟩
   ·exact .inl hn
   ·refine .inr ⟨g3,cap3,ahX,hv3,h0,(ku _ _ _ _ ?_).trans hg3,rest⟩
    rintro rfl
    rw[hbk]at hg3
    simp at hg3
  have yC:=ah (h.other (i:=2) hbk hkB hW (.int .i8 0))
  have zu:=ah (HST.o w 2 (.int .i8 0) hf)
  have EW:=ah (Tryz.Buffer_Len B2 B2 (Lib.byteCells l) _ I1)
  rw[Lib.byteCells_length,hn]at EW
  have HB1:=ah hb1
  have HG1:=ah hg1
  have HTK:=ah htk
  have hme:=ig
  have hnl:=YH
  have hca:=call262
  go_enter func144,ntmps144
  go_wp2_with (go_at_call 134;refine EW.o.mono ?_;rintro e w1 ⟨rfl,hw1⟩;have hbl:Below (w.setCell ⟨B2,2,none⟩ (.int .i8 0)).heap.size (w.setCell ⟨B2,2,none⟩ (.int .i8 0)) w1:=lG hw1;have rU:=ah hbl;clear hw1 hbl;refine Hid.o ?_)
  refine ah ?_
  have zu:=ah (Eo.o _ _ _ yC.o zu.o rU.o)
  have yC:=ah (yC.o.old rU.o)
  have HB1:=ah ((rU.o.block _ (lt_of_block HB1.o)).trans HB1.o)
  have HG1:=ah ((rU.o.block _ (lt_of_block HG1.o)).trans HG1.o)
  have HK:=ah (⟨hkB,hgb,hgB,hW,hM,hn,hcs,hl⟩:B2≠B∧g≠B2∧g≠B∧W0.heap.size≤B2∧M+n≤1000000000∧l.length=n∧cur.size=cap∧n≤1000000000)
  clear c0 c1 c2 f0 f1 f2 hbk hg hg1 hb1 I1 hbuf h hf EW rU htk hkB hgb hBg hgB hW hM hn
  by_cases hz:n=0
  ·subst hz
   have c0:=au HB1.o 0 (v:=.slice (some ⟨g,0,none⟩) 0 cap) rfl
   have f0:=aI HB1.o 0
   have f1:=aI HB1.o 1
   have f2:=aI HB1.o 2
   have c1:=au HB1.o 1 (v:=.int .i64 0) rfl
   have c2:=au HB1.o 2 (v:=.int .i8 0) rfl
   go_wp2_with (go_at_call 85;refine(wS B2 _ 0 0 0 cap (jf _) _ HB1.o).mono ?_;rintro e w2 ⟨rfl,hw2⟩;have hr:=zi yC.o zu.o HST.o HB1.o HK.o.1 HK.o.2.2.2.1 (.slice (some ⟨g,0,none⟩) 0 cap) (.int .i64 0) (.int .i8 0);rw[←hw2]at hr;have HR:=ah hr;clear hw2 hr)
   go_ret2
   exact⟨rfl,HR.o.1.mono bW,HR.o.2⟩
  ·have hz2:decide ((0:Int)<(n:Int))=true:=by simp;omega
   have hz3:0<n:=by omega
   have c0:=au (w:=w1.drew) HB1.o 0 (v:=.slice (some ⟨g,0,none⟩) n cap) rfl
   have c1:=au (w:=w1.drew) HB1.o 1 (v:=.int .i64 0) rfl
   have SRC:=ah (fun j v hj=>by
    rw[add_plain]
    refine au (w:=w1.drew) HG1.o j ?_
    have h2:(cur.toList.take n)[j]?=some v:=by rw[HTK.o];exact hj
    rw[List.getElem?_take]at h2
    split at h2
    ·rw[←qV];exact h2
    ·exact absurd h2 (by simp):∀j v,(Lib.byteCells l)[j]?=some v→w1.drew.cell? ((⟨g,0,none⟩:Addr).add j)=some v)
   have zu:=ah (Eo.o _ _ _ yC.o zu.o ((jM w1).drew))
   have yC:=ah (yC.o.old (jc.drew))
   have HB1:=ah (show w1.drew.heap[B2]?=some (.cells #[.slice (some ⟨g,0,none⟩) n cap,.int .i64 0,.int .i8 0] 151 (0,0))from HB1.o)
   go_wp2
   go_region_with (go_at_call 262;refine(yC.o.adB l ⟨g,0,none⟩ n cap HK.o.2.2.2.2.2.1 HK.o.2.2.1 SRC.o HK.o.2.2.2.2.1).mono ?_;rintro e w3 ⟨rfl,h1,h2⟩;have apG:=ah h1;have apJ:=ah (HWR.o _ _ zu.o h2.1 h2.2);have HB3:=ah (h2.1.2 _ _ HB1.o JZ.o HK.o.1 (by simp));clear h1 h2)
   all_goals (
    have c0:=au HB3.o 0 (v:=.slice (some ⟨g,0,none⟩) n cap) rfl
    have c1:=au HB3.o 1 (v:=.int .i64 0) rfl
    have f1:=aI HB3.o 1
    have hb4:=Joins.block_setCell HB3.o (i:=1) (.int .i64 n)
    have HB4:=ah (show(w3.setCell ⟨B2,1,none⟩ (.int .i64 n)).heap[B2]?=some (.cells #[.slice (some ⟨g,0,none⟩) n cap,.int .i64 n,.int .i8 0] 151 (0,0))from hb4)
    have HE4:=ah (apG.o.other (i:=1) HB3.o HK.o.1 HK.o.2.2.2.1 (.int .i64 n))
    have HF4:=ah (HST.o w3 1 (.int .i64 n) apJ.o)
    clear hb4
    go_wp2_with (go_at_call 85;refine(wS B2 _ n 0 n cap hnc _ HB4.o).mono ?_;rintro e w2 ⟨rfl,hw2⟩;have hr:=zi HE4.o HF4.o HST.o HB4.o HK.o.1 HK.o.2.2.2.1 (.slice (some ⟨g,0,none⟩) 0 cap) (.int .i64 0) (.int .i8 0);rw[←hw2]at hr;have HR:=ah hr;clear hw2 hr)
    go_ret2
    exact⟨rfl,HR.o.1,HR.o.2⟩)
theorem Hu {E B M B2:Nat} {F:EF} {W0 w0 ws w:World} (l:List UInt8) (h:En E B F M W0 w) (hf:Fe E B w0 ws w) (hB:B<w0.heap.size) (hW:W0.heap.size≤w0.heap.size) (hb2:w0.heap.size≤B2) (hbuf:Lib.IsBuffer 151 5 B2 B2 (Lib.byteCells l) w) (hl:l.length≤1000000000) (hM:M+l.length≤1000000000) :
  Calls prog 144 #[.pointer (some ⟨B2,0,none⟩),.iface 142 (.pointer (some ⟨B,0,none⟩))] w fun e w'=>e=.returned (.tuple #[.int .i64 l.length,.nilIface])∧En E B F (M+l.length) W0 w'∧Fe E B w0 ws w':=by
 have hkE:B2≠E:=by
  obtain⟨p,_,he⟩:=h.enc
  obtain⟨_,v,lr,hbk,-⟩:=hbuf
  rintro rfl;rw[hbk]at he;simp at he
 exact Ec l h hf (fun w i v hp=>hp.other hb2 hB hkE v) (fun M w w' hen hp hb=>hp.below hb hen) (fun w w' hp h1 h2=>⟨hp.fr.trans h1,h2.trans hp.ee⟩) (by omega) (by omega) hbuf hl hM
theorem wZ:∀l:List A,(A.iZ l).length=l.length
 |[]=>rfl
 |a::l=>by simp[A.iZ,wZ l]
structure ad8 (M C X:Nat):Prop where
 o:M+(C+1024)≤60000000∧X≤M+16+C
structure ahE (d:Int) (D:Nat):Prop where
 o:0≤d∧d+((D+1:Nat):Int)≤64
theorem aaT (l:List A) (hg:(A.jJ l).dN.f_) (hgd:∀e∈l,e.dN.f_) (hlm:l.length≤1000000) (hne:l≠[]) (ih:∀(i:Nat) (h:i<l.length),mG l[i]):mG (.jJ l):=by
 intro ok v E B M F W0 w d hv hT hE hM h0 hd
 obtain⟨s,vs,rfl,hr,hls⟩:=id hv
 have hlen:=hls.len
 obtain⟨A0,c,rfl,hc,hcm,hrow⟩:=hr.cell
 have hn1:0<l.length:=List.length_pos_iff.2 hne
 obtain⟨g,rfl,hcell⟩:=hrow (by omega)
 simp only[A.ec,A.dep]at hM hd ⊢
 have hw:T.NV (A.iZ l):=hg.1.2
 have hgt:(T.str (A.iZ l)).ty.length≤1000000:=hg.2.2.2
 have HNF:=ah (fun (w:World)=>Bo (A.iZ l) hw w hgt)
 have HF:=ah (fun (i:Nat) (hi:i<(A.iZ l).length) (w:World)=>Jh (A.iZ l) hw i hi w hgt)
 obtain⟨al,hal,ql⟩:=aaj (T.nI (A.iZ l)++[41])
 have hty:(A.jJ l).dN.ty=40::(T.nI (A.iZ l)++[41]):=rfl
 have amg:(T.str (A.iZ l)).ty=40::(T.nI (A.iZ l)++[41]):=rfl
 rw[hty]
 rw[amg]at HNF HF
 obtain⟨R,hR⟩:∃R,T.nI (A.iZ l)++[41]=R:=⟨_,rfl⟩
 rw[hR]at HNF HF ql ⊢
 obtain⟨n,hn⟩:∃n,vs.length=n:=⟨_,rfl⟩
 rw[hn]at hc ⊢
 have hnl:l.length=n:=by omega
 rw[wZ,hnl]at HNF
 have HL:=ah (⟨hnl,by rw[wZ];exact hnl⟩:l.length=n∧(A.iZ l).length=n)
 have HGD:=ah hgd
 have N8:=ah hcell
 have HLS:=ah hls
 have PT:=ah hT
 have IH:=ah ih
 have ht:(bs (40::R)).toList=40::R:=bH _
 have hkd:=dQ 40 R 18 rfl
 have hmk:n≤1000000:=by omega
 obtain⟨C,hC⟩:∃C,A.qM l=C:=⟨_,rfl⟩
 obtain⟨D,hD⟩:∃D,A.nS l=D:=⟨_,rfl⟩
 rw[hC]at hM ⊢
 rw[hD]at hd
 have QC:=ah (⟨hC,hD⟩:A.qM l=C∧A.nS l=D)
 have LD:ahE d D:=⟨h0,hd⟩
 have LM:ad8 M C 0:=⟨by omega,by omega⟩
 have LK:ad8 (F.k+M) C 0:=⟨hM,by omega⟩
 have hdd:d≤63:=by omega
 have hkb:=ah hE.kb
 have vV:=ah ql
 have KP:=ah (Kp.new hE #[.iface 91 (.agg #[.slice (some ⟨g,0,none⟩) n c]),.string (bs (40::R))])
 clear hE hv hls hcell hr hc hcm hrow hT ih hgd hg hw hgt hty amg hR hlen hn hnl hn1 hne hC hD hM hd ql hlm
 obtain⟨b0,b1⟩:=KP.o.box
 go_enter func175,ntmps175
 go_wp2_with (first|((first|(go_at_call 207;refine(lZ _ _ _ _).mono ?_)|(go_at_call 77;refine(lN _ _ 40 _ 18 rfl _).mono ?_));rintro e w1 ⟨rfl,hb⟩;have KP:=ah (KP.o.old hb);have ⟨b0,b1⟩:=KP.o.box;clear hb)|(go_at_call 206;refine gU (vV.o _) ?_)|(go_at_call 143;refine(fV KP.o.en al hal (by have:=LM.o;omega)).mono ?_;rintro e w1 ⟨rfl,h1,h2⟩;have KP:=ah (KP.o.step h1 h2);have ⟨b0,b1⟩:=KP.o.box;clear h1 h2))
 have KP0:=ah KP.o
 clear KP b0 b1
 go_loopw [29] (fun t wr=>∃(k X:Nat),k≤n∧t=.int .i64 k∧ad8 M (A.qM (l.take k)) X∧aj (Kp E B w.heap.size F X W0 w #[.iface 91 (.agg #[.slice (some ⟨g,0,none⟩) n c]),.string (bs (40::R))] wr)) (fun t _=>n-(intOf t).toNat)
 case atStart=>exact⟨0,M+16,jf _,rfl,⟨by have:=LM.o;simp only[List.take_zero,A.qM];omega⟩,⟨KP0.o⟩⟩
 case round =>
  clear KP0
  obtain⟨k,X,hkn,rfl,LX,kp⟩:=hrel
  have KP:=ah kp.o
  clear kp
  obtain⟨b0,b1⟩:=KP.o.box
  by_cases hk:k<n
  ·have hkl:k<l.length:=by rw[HL.o.1];exact hk
   have hkt:k<(A.iZ l).length:=by rw[HL.o.2];exact hk
   obtain⟨vk,hvk,BU⟩:=HLS.o.get k hkl
   obtain⟨tv,uv,rfl⟩:=BU.iface
   have CK:=ah (N8.o k _ hvk)
   have Qo:=ah BU
   have hgk:(l[k]).dN.ty.length≤1000000:=(HGD.o _ (nZ hkl)).2.2.2
   have c1:=A.zS l k hkl
   have c2:=A.zT l (k+1)
   have c3:=A.wP l k hkl
   have hXC:F.k+X+(l[k]).ec≤60000000:=by have:=LX.o;have:=LK.o;have:=QC.o;omega
   have hdk:d+1+((l[k]).dep:Int)≤64:=by have:=LD.o;have:=QC.o;omega
   have hdp:0≤d+1:=by have:=LD.o;omega
   have Ef:=ah (fun w' (hE':En E B F X W0 w')=>IH.o k hkl ok _ E B X F W0 w' (d+1) Qo.o PT.o hE' hXC hdp hdk)
   have LX2:ad8 M (A.qM (l.take (k+1))) (X+(l[k]).ec):=⟨by have:=LX.o;have:=LM.o;have:=QC.o;constructor<;>omega⟩
   have FK:=ah (fun w=>HF.o k hkt w)
   have FO:=ah (fun W (hB:Below W0.heap.size W0 W)=>U7 l[k] hgk ok (.iface tv uv) g n c k (bs (40::R)) W (Qo.o.below hB) hk ((hB.cell (fA W0 _ CK.o)).trans CK.o))
   have h00:0≤d:=LD.o.1
   generalize (l[k]).ec=CX at *
   generalize (l[k]).dep=DX at *
   generalize bs (l[k]).dN.ty=TX at *
   generalize bs ((A.iZ l)[k]).ty=TY at *
   have Jo:(k:Int)<n:=by omega
   clear c1 c2 c3 hXC hdk hdp hgk BU hvk LX
   go_wp2_with (first|((first|(go_at_call 207;refine(lZ _ _ _ _).mono ?_)|(go_at_call 98;refine(HNF.o _).mono ?_)|(go_at_call 89;refine(FO.o _ KP.o.en.eX).mono ?_));rintro e w1 ⟨rfl,hb⟩;have KP:=ah (KP.o.old hb);have ⟨b0,b1⟩:=KP.o.box;clear hb)|(go_at_call 99;refine(FK.o _).mono ?_;rintro e w1 ⟨rfl,hb⟩;have KP:=ah ((KP.o.old hb).old (gG (.cells #[.string TY,.string ⟨#[]⟩,.string ⟨#[]⟩] 165)));have ⟨b0,b1⟩:=KP.o.box;clear hb)|(go_at_call 100;refine gU (JH _ _ _) ?_)|(go_at_call 175;refine(Ef.o _ KP.o.en).mono ?_;rintro e w1 ⟨rfl,h1,h2⟩;have KP:=ah (KP.o.step h1 h2);have ⟨b0,b1⟩:=KP.o.box;clear h1 h2))
   all_goals (
    go_roundw
    case rel=>exact⟨k+1,_,hk,by go_num,LX2,⟨KP.o⟩⟩
    case measure=>simp[intOf];omega)
  ·have hke:n=k:=by omega
   subst hke
   have Jo:decide ((n:Int)<(n:Int))=false:=by simp
   have LXN:=ah (by have:=LX.o;have h:=QC.o.1;rw[kT (by rw[HL.o.1];exact bW),h]at this;omega:X≤M+(C+1024))
   go_wp2_with ((first|(go_at_call 207;refine(lZ _ _ _ _).mono ?_)|(go_at_call 98;refine(HNF.o _).mono ?_));rintro e w1 ⟨rfl,hb⟩;have KP:=ah (KP.o.old hb);have ⟨b0,b1⟩:=KP.o.box;clear hb)
   all_goals (
    go_end0
    exact⟨rfl,KP.o.en.mono LXN.o,KP.o.fr⟩)
section
theorem SX {E B B2:Nat} {bs:List Value} {wr w:World} (h:Lib.IsBuffer 151 5 B2 B2 bs wr) (hno:∀k,fG B k wr→k<B2) (hE:E<B2) (hB:B<B2) (hf:Fr E B wr w):Lib.IsBuffer 151 5 B2 B2 bs w:=by
 obtain⟨q1,v,lr,hbk,q3,q4⟩:=h
 refine⟨q1,v,lr,hf.2 _ _ hbk (by omega) (by omega) (by simp),⟨q3.1,?_⟩,q4⟩
 rcases q3.2 with hn|⟨g,cap,cur,hv,h0,hg,rest⟩
 ·exact .inl hn
 ·refine .inr ⟨g,cap,cur,hv,h0,((hf.row g).1 (lt_of_block hg) (by omega) (by omega) (fun ho=>?_)).trans hg,rest⟩
  have:=hno g ho
  omega
theorem En.own {E B M:Nat} {F:EF} {W0 w:World} (h:En E B F M W0 w) {k:Nat} (ho:fG B k w):k<w.heap.size:=by
 obtain⟨l,hl,hbuf⟩:=h.buf
 obtain⟨-,lr,hc⟩:=hbuf.cases
 rcases hc with ⟨-,hbk⟩|⟨g,cap,cur,hbk,-,hg,-⟩
 ·exact absurd ho (fun h=>h.nil hbk)
 ·rw[ho.of hbk];exact lt_of_block hg
theorem En.fds {E B M:Nat} {F:EF} {W0 w:World} (h:En E B F M W0 w):En E B F M W0 (w.setCell ⟨E,1,none⟩ (.slice F.a F.l F.c)):=by
 obtain⟨p,hp,he⟩:=h.enc
 obtain⟨l,hl,hbuf⟩:=h.buf
 refine⟨⟨p,hp,Joins.block_setCell he _⟩,⟨l,by omega,?_⟩,h.eX.setCell (p:=⟨E,1,none⟩) (by have:=h.le;have:=h.lt;show W0.heap.size≤E;omega) _,h.le,h.lt,h.kb⟩
 obtain⟨hB,v,lr,hbk,hown,hne⟩:=hbuf
 have hEB:B≠E:=by have:=h.lt;omega
 refine⟨hB,v,lr,(ku _ _ _ _ hEB).trans hbk,⟨hown.1,?_⟩,hne⟩
 rcases hown.2 with hn|⟨g,cap,cur,hv,h0,hg,rest⟩
 ·exact .inl hn
 ·refine .inr ⟨g,cap,cur,hv,h0,(ku _ _ _ _ ?_).trans hg,rest⟩
  rintro rfl
  rw[he]at hg
  simp at hg
structure Li (E B b0 B2:Nat) (F:EF) (M:Nat) (W0 w0:World) (cs:Array Value) (l:List UInt8) (wr w:World):Prop where
 kp:Kp E B b0 F M W0 w0 cs w
 fr:Fr E B wr w
 buf:Lib.IsBuffer 151 5 B2 B2 (Lib.byteCells l) wr
 no:∀k,fG B k wr→k<B2
 lt:E<B2
section
variable {E B b0 B2 M M':Nat} {F:EF} {W0 w0 wr w w':World} {cs:Array Value} {l:List UInt8}
theorem Li.aiT (h:Li E B b0 B2 F M W0 w0 cs l wr w):Lib.IsBuffer 151 5 B2 B2 (Lib.byteCells l) w :=
 SX h.buf h.no h.lt (Nat.lt_trans h.kp.en.lt h.lt) h.fr
theorem Li.old (h:Li E B b0 B2 F M W0 w0 cs l wr w) (hb:Below w.heap.size w w'):Li E B b0 B2 F M W0 w0 cs l wr w' :=
 ⟨h.kp.old hb,h.fr.trans (Fr.below hb h.kp.en.size),h.buf,h.no,h.lt⟩
theorem Li.step (h:Li E B b0 B2 F M W0 w0 cs l wr w) (he:En E B F M' W0 w') (hf:Fr E B w w'):Li E B b0 B2 F M' W0 w0 cs l wr w' :=
 ⟨h.kp.step he hf,h.fr.trans hf,h.buf,h.no,h.lt⟩
theorem Li.fds (h:Li E B b0 B2 F M W0 w0 cs l wr w):Li E B b0 B2 F M W0 w0 cs l wr (w.setCell ⟨E,1,none⟩ (.slice F.a F.l F.c)) :=
 h.step h.kp.en.fds (Fr.set h.kp.en.lt _ _ _)
theorem Li.len (h:Li E B b0 B2 F M W0 w0 cs l wr w) :
  Calls prog 134 #[.pointer (some ⟨B2,0,none⟩)] w fun e w'=>e=.returned (.int .i64 l.length)∧Li E B b0 B2 F M W0 w0 cs l wr w':=by
 refine(Tryz.Buffer_Len B2 B2 _ w h.aiT).mono ?_
 rintro e w' ⟨rfl,hw⟩
 exact⟨by rw[Lib.byteCells_length],h.old (lG hw)⟩
theorem Li.new {W1:World} {F2:EF} {X:Nat} (h:Kp E B b0 F M W0 w0 cs W1) (hi:En (W1.heap.size+1) W1.heap.size F2 X W1 wr):∃l,l.length≤X∧Li E B b0 W1.heap.size F M W0 w0 cs l wr wr:=by
 obtain⟨l,hl,hbuf⟩:=hi.buf
 exact⟨l,hl,h.old hi.eX,Fr.refl _ _ _,hbuf,fun k ho=>h.en.own (ho.keep (hi.eX.block B h.en.size)),h.en.ltE⟩
end
end
structure akI (K M C n:Nat):Prop where
 o:K+M+(C+1024)≤60000000∧n≤1000000
structure akH (X Y:Nat):Prop where
 o:X≤Y
theorem En.alR {E B M M':Nat} {F:EF} {W0 w0 w:World} (h:En E B F M W0 w) (hf:Fr E B w0 w) {x:Int} {p q:Nat} (hx:x=((p+q:Nat):Int)) (hp:p+q≤F.k+M) (hM:M≤M'):En E B F M' W0 (w.setCell ⟨E,3,none⟩ (.int .i64 x))∧Fr E B w0 (w.setCell ⟨E,3,none⟩ (.int .i64 x)):=by
 subst hx
 exact⟨h.pos (p+q) (by omega) (by omega),hf.trans (Fr.set h.lt _ _ _)⟩
theorem aaS (t:T) (l:List A) (hg:(A.list t l).dN.f_) (hgt:t.wf) (hlm:l.length≤1000000) (ih:∀(i:Nat) (h:i<l.length),mG l[i]) (hty:∀(i:Nat) (h:i<l.length),(l[i]).dN=t):mG (.list t l):=by
 intro ok v E B M F W0 w d hv hT hE hM h0 hd
 obtain⟨bp,s,vs,rfl,-,hbk,hr,hls⟩:=id hv
 have hlen:=hls.len
 obtain⟨A0,c,rfl,hc,hcm,hrow⟩:=hr.cell
 simp only[A.ec,A.dep]at hM hd ⊢
 obtain⟨al,hal,ql⟩:=aai t hgt
 obtain⟨al2,hal2,aij⟩:=ahI t hgt
 rw[show (A.list t l).dN.ty=91::t.ty from rfl]
 have aiA:∀(i:Nat) (h:i<l.length),(l[i]).dN.ty=t.ty:=fun i h=>by rw[hty i h]
 obtain⟨TT,OT⟩:∃TT,t.ty=TT:=⟨_,rfl⟩
 rw[OT]at ql aij hbk aiA ⊢
 obtain⟨n,hn⟩:∃n,vs.length=n:=⟨_,rfl⟩
 rw[hn]at hbk hc hrow
 have hnl:l.length=n:=by omega
 have HL:=ah (⟨hnl,hn,hrow⟩:l.length=n∧vs.length=n∧_)
 have HLS:=ah hls
 have PT:=ah hT
 have IH:=ah ih
 have adW:=ah aiA
 have BX:=ah hbk
 obtain⟨C,hC⟩:∃C,A.qM l=C:=⟨_,rfl⟩
 obtain⟨D,hD⟩:∃D,A.nS l=D:=⟨_,rfl⟩
 rw[hC]at hM ⊢
 rw[hD]at hd
 have QC:=ah (⟨hC,hD⟩:A.qM l=C∧A.nS l=D)
 have LD:ahE d D:=⟨h0,hd⟩
 have LM:akI F.k M C n:=⟨hM,by omega⟩
 have hdd:d≤63:=by omega
 have aiy:d≤64:=by omega
 have HKB:=ah hE.kb
 have vV:=ah ql
 have akv:=ah aij
 have nY:=ah hE.size
 have HWW:=ah hE.eX.size
 have KP:=ah (Kp.new hE #[.iface 100 (.pointer (some ⟨bp,0,none⟩)),.string (bs (91::TT))])
 clear hE hv hls hr hc hcm hrow hT ih hg hgt OT hlen hn hnl hC hD hM hd ql aij hlm hbk hty aiA
 obtain⟨b0,b1⟩:=KP.o.box
 go_enter func175,ntmps175
 go_wp2_with (first|((first|(go_at_call 207;refine(lZ _ _ _ _).mono ?_)|(go_at_call 77;refine(lN _ _ 91 _ 16 rfl _).mono ?_));rintro e w1 ⟨rfl,hb⟩;have KP:=ah (KP.o.old hb);have ⟨b0,b1⟩:=KP.o.box;clear hb)|(go_at_call 206;refine gU (vV.o _) ?_)|(go_at_call 143;refine(fV KP.o.en al hal (by have:=LM.o;omega)).mono ?_;rintro e w1 ⟨rfl,h1,h2⟩;have KP:=ah (KP.o.step h1 h2);have ⟨b0,b1⟩:=KP.o.box;clear h1 h2)|(go_at_call 176;obtain⟨p,hp,he⟩:=KP.o.en.enc;have HE:=ah he;have HP:=ah hp;have e3:=au he 3 (v:=.int .i64 p) rfl;refine(rF E p 0 _ _ _ 4 (by omega) (by have:=LM.o;have:=HKB.o;omega) (by omega) _ he).mono ?_;clear he hp;rintro e w1 ⟨⟨q1,hq1,rfl⟩,rfl⟩;refine Hid.o ?_))
 refine ah ?_
 have ZU:=ah (by have:=HP.o;have:=HKB.o;have:=LM.o;omega:p≤870000000)
 have hpl:p≤870000000:=ZU.o
 have HQ4:((q1:Int)+4)=((q1+4:Nat):Int):=by omega
 have HQ:=ah HQ4
 clear HQ4
 have HW1:=ah KP.o.fr.eX.size
 clear b0 b1 e3
 obtain⟨b0,b1⟩:=KP.o.box
 have e3:=au HE.o 3 (v:=.int .i64 p) rfl
 go_wp2
 refine H_ ((fun w'=>w'.cell? ⟨E,3,none⟩=some (.int .i64 p)∧w'.cell? ⟨w.heap.size,0,none⟩=some (.iface 100 (.pointer (some ⟨bp,0,none⟩)))∧w'.cell? ⟨w.heap.size,1,none⟩=some (.string (bs (91::TT))))) fun hHeld=>?_
 refine dL 0 ?_
 refine dL 1 ?_
 refine dL 2 ?_
 refine dL 3 ?_
 refine dL 4 ?_
 refine dL 6 ?_
 refine dL 7 ?_
 refine dL 8 ?_
 refine dL 5 ?_
 refine rn 9 fun K hK=>?_
 go_simp
 refine(lZ _ _ _ _).mono ?_;rintro e w1 ⟨rfl,hb⟩;have KP:=ah (KP.o.old (jc.drew.trans hb));have ⟨b0,b1⟩:=KP.o.box;have HE:=ah ((hb.block _ (lt_of_block HE.o)).trans HE.o);have e3:=au HE.o 3 (v:=.int .i64 p) rfl;clear hb
 (try go_wp2_with fail)
 refine ji hK ?_;clear hK K hHeld;intro hHeld
 refine rn 10 fun K hK=>?_
 go_simp
 refine gU (xG TT _) ?_
 (try go_wp2_with fail)
 refine ji hK ?_;clear hK K hHeld;intro hHeld
 refine rn 11 fun K hK=>?_
 go_simp
 refine gU (akv.o _) ?_
 (try go_wp2_with fail)
 refine ji hK ?_;clear hK K hHeld;intro hHeld
 refine rn 12 fun K hK=>?_
 go_simp
 rw[HQ.o];refine(rF E p (q1+4) _ _ _ al2 hal2 (by omega) (by omega) _ HE.o).mono ?_;rintro e w4 ⟨⟨q2,hq2,rfl⟩,rfl⟩
 (try go_wp2_with fail)
 refine ji hK ?_;clear hK K hHeld;intro hHeld
 refine rn 13 fun K hK=>?_
 go_simp
 refine ji hK ?_;clear hK K hHeld;intro hHeld
 refine rn 14 fun K hK=>?_
 go_simp
 refine ji hK ?_;clear hK K hHeld;intro hHeld
 refine lX ?_
 obtain⟨q,hq,hqq⟩:∃q:Nat,IntKind.i64.wrap (IntKind.i64.wrap ((p:Int)+((q1:Int)+4))+(q2:Int))=(q:Int)∧q=p+q1+4+q2:=⟨p+q1+4+q2,by rw[IntKind.wrap_i64,IntKind.wrap_i64];omega,rfl⟩
 rw[hq]
 have HQQ:=ah (by have:=HP.o;have:=HKB.o;have:=LM.o;omega:q≤F.k+M+40∧q≤870000000)
 clear hq hqq hHeld e3 HE
 have KPA:=ah (KP.o.old (gG (.cells #[.slice none 0 0,.int .i64 0,.int .i8 0] 151)))
 clear b0 b1
 obtain⟨b0,b1⟩:=KPA.o.box
 obtain⟨pa,hpa,e0,e1,e2,e3,g3,g1⟩:=KPA.o.fB
 clear e0 e3 g3 g1 hpa
 go_wp2
 refine H_ ((fun w'=>w'.cell? ⟨E,2,none⟩=some (.iface 160 (.agg #[]))∧w'.cell? ⟨E,1,none⟩=some (.slice F.a F.l F.c))) fun hHeld=>?_
 refine dL 0 ?_
 refine dL 1 ?_
 refine dL 2 ?_
 refine dL 3 ?_
 refine dL 4 ?_
 refine dL 5 ?_
 refine dL 6 ?_
 refine dL 7 ?_
 refine dL 8 ?_
 refine dL 9 ?_
 refine rn 10 fun K hK=>?_
 go_simp
 refine(Tz _ _ _ _ _ q _).mono ?_;rintro e w5 ⟨rfl,hn5,hb5⟩;have KP5:=ah (KPA.o.old (jc.drew.trans hb5));have ⟨pb,hpb,e0,e1,e2,e3,g3,g1⟩:=KP5.o.fB
 (try go_wp2_with fail)
 refine ji hK ?_;clear hK K hHeld;intro hHeld
 refine rn 11 fun K hK=>?_
 go_simp
 refine ji hK ?_;clear hK K hHeld;intro hHeld
 refine lX ?_
 have EN5:=ah (En.fresh (W:=w4) F.a F.l F.c q (by have:=HQQ.o;have:=HKB.o;have:=LM.o;omega) (by simpa using hn5) (jc.drew.trans hb5))
 have Ie:=ah KP.o
 clear KP KPA KP5 hb5 hn5 b0 b1 e0 e1 e2 e3 g3 g1 hHeld hpb
 go_wp2
 go_loopw [19] (fun t wr=>∃(k X:Nat),k≤n∧t=.int .i64 k∧akH X (A.qM (l.take k))∧aj (En (w4.heap.size+1) w4.heap.size ⟨F.a,F.l,F.c,q⟩ X w4 wr)) (fun t _=>n-(intOf t).toNat)
 case atStart=>exact⟨0,0,jf _,rfl,⟨jf _⟩,⟨EN5.o⟩⟩
 case round =>
  clear EN5
  obtain⟨k,X,hkn,rfl,LX,en⟩:=hrel
  have EN:=ah en.o
  clear en
  have KR:=ah (Ie.o.old EN.o.eX)
  obtain⟨b0,b1⟩:=KR.o.box
  have hmk:n≤1000000:=LM.o.2
  by_cases hk:k<n
  ·have hkl:k<l.length:=by rw[HL.o.1];exact hk
   obtain⟨vk,hvk,BU⟩:=HLS.o.get k hkl
   obtain⟨tv,uv,rfl⟩:=BU.iface
   obtain⟨g,rfl,hcell⟩:=HL.o.2.2 (by omega)
   have CK:=ah (hcell k _ hvk)
   have Qo:=ah (BU.below Ie.o.en.eX)
   have PT4:=ah (Utf8Tabs_below PT.o Ie.o.en.eX)
   have c1:=A.zS l k hkl
   have c2:=A.zT l (k+1)
   have c3:=A.wP l k hkl
   have hXC:(⟨F.a,F.l,F.c,q⟩:EF).k+X+(l[k]).ec≤60000000:=by have:=LX.o;have:=LM.o;have:=HQQ.o;have:=QC.o;show q+X+_≤_;omega
   have hdk:d+1+((l[k]).dep:Int)≤64:=by have:=LD.o;have:=QC.o;omega
   have hdp:0≤d+1:=by have:=LD.o;omega
   have Ef:=ah (fun w' (hE':En (w4.heap.size+1) w4.heap.size ⟨F.a,F.l,F.c,q⟩ X w4 w')=>(by
    have h:=IH.o k hkl ok _ _ _ X _ w4 w' (d+1) Qo.o PT4.o hE' hXC hdp hdk
    rw[adW.o k hkl]at h
    exact h:Calls prog 175 #[.pointer (some ⟨w4.heap.size+1,0,none⟩),.agg #[.iface tv uv,.string (bs TT)],.int .i64 (d+1)] w' (rP (w4.heap.size+1) w4.heap.size ⟨F.a,F.l,F.c,q⟩ (X+(l[k]).ec) w4 w')))
   have LX2:akH (X+(l[k]).ec) (A.qM (l.take (k+1))):=⟨by have:=LX.o;omega⟩
   have h00:0≤d:=LD.o.1
   generalize (l[k]).ec=CX at *
   generalize (l[k]).dep=DX at *
   have Jo:(k:Int)<n:=by omega
   clear c1 c2 c3 hXC hdk hdp BU hvk hcell LX
   go_wp2_with (first|((first|(go_at_call 78;(with_reducible refine(xZ bp _ _ n c _ _ ((KR.o.en.eX.block _ (lt_of_block BX.o)).trans BX.o)).mono ?_))|(go_at_call 80;refine(indexOf bp g n c k _ TT tv uv _ ((KR.o.en.eX.block _ (lt_of_block BX.o)).trans BX.o) hk ((KR.o.en.eX.cell (fA W0 _ CK.o)).trans CK.o)).mono ?_));rintro e w6 ⟨rfl,hb⟩;have EN:=ah (EN.o.old hb);have KR:=ah (KR.o.old hb);have ⟨b0,b1⟩:=KR.o.box;clear hb)|(go_at_call 175;refine(Ef.o _ EN.o).mono ?_;rintro e w6 ⟨rfl,h1,h2⟩;have EN:=ah h1;have KR:=ah (Ie.o.old EN.o.eX);have ⟨b0,b1⟩:=KR.o.box;clear h1 h2))
   all_goals (
    go_roundw
    case rel=>exact⟨k+1,_,hk,by go_num,LX2,⟨EN.o⟩⟩
    case measure=>simp[intOf];omega)
  ·have hke:n=k:=by omega
   subst hke
   have Jo:decide ((n:Int)<(n:Int))=false:=by simp
   go_wp2_with (go_at_call 78;(with_reducible refine(xZ bp _ _ n c _ _ ((KR.o.en.eX.block _ (lt_of_block BX.o)).trans BX.o)).mono ?_);rintro e w6 ⟨rfl,hb⟩;have EN:=ah (EN.o.old hb);have KR:=ah (KR.o.old hb);clear hb;refine Hid.o ?_)
   refine ah ?_
   clear b0 b1
   obtain⟨li,hli,LI0⟩:=Li.new Ie.o EN.o
   have LI:=ah LI0
   clear LI0
   obtain⟨pi,-,he2⟩:=EN.o.enc
   have HE2:=ah he2
   have Cc:=ah (by have:=Ie.o.en.ltE;have:=Ie.o.en.size;constructor<;>omega:w4.heap.size+1≠E∧w4.heap.size+1≠B)
   have HLI:=ah (by have:=LX.o;have h:=QC.o.1;rw[kT (by rw[HL.o.1];exact bW),h]at this;omega:li.length≤C)
   obtain⟨L,hL⟩:∃L,li.length=L:=⟨_,rfl⟩
   have Ed:=ah hL
   have hLm:L≤60000000:=by have:=HLI.o;have:=LM.o;omega
   have EW:=ah (fun cs M' W (h:Li E B w.heap.size w4.heap.size F M' W0 w cs li w6 W)=>(by have h:=h.len;rw[Ed.o]at h;exact h:Calls prog 134 #[.pointer (some ⟨w4.heap.size,0,none⟩)] W fun e w'=>e=.returned (.int .i64 L)∧Li E B w.heap.size w4.heap.size F M' W0 w cs li w6 w'))
   have HSW:=ah (⟨nY.o,HWW.o,Ie.o.fr.eX.size⟩:B<w.heap.size∧W0.heap.size≤w.heap.size∧w.heap.size≤w4.heap.size)
   have WT:=ah (fun cs M' W (h:Li E B w.heap.size w4.heap.size F M' W0 w cs li w6 W) (hM':M'+L≤1000000000)=>(by
    have h':=Hu (ws:=W) li h.kp.en ⟨h.kp.fr,rfl⟩ HSW.o.1 HSW.o.2.1 HSW.o.2.2 h.aiT (by rw[Ed.o];omega) (by rw[Ed.o];exact hM')
    rw[Ed.o]at h'
    exact h':Calls prog 144 #[.pointer (some ⟨w4.heap.size,0,none⟩),.iface 142 (.pointer (some ⟨B,0,none⟩))] W fun e w'=>e=.returned (.tuple #[.int .i64 L,.nilIface])∧En E B F (M'+L) W0 w'∧Fe E B w W w'))
   clear hL hli he2 EN KR LX
   obtain⟨b0,b1⟩:=LI.o.kp.box
   obtain⟨p,hp,e0,e1,e2,e3,g3,g1⟩:=LI.o.kp.fB
   have i1:=au HE2.o 1 (v:=.slice F.a F.l F.c) rfl
   go_wp2_with (first|((first|(go_at_call 134;(with_reducible refine(EW.o _ _ _ LI.o).mono ?_))|(go_at_call 134;(with_reducible refine(EW.o _ _ _ LI.o.fds).mono ?_)));rintro e w7 ⟨rfl,h⟩;have LI:=ah h;have ⟨b0,b1⟩:=LI.o.kp.box;have ⟨p,hp,e0,e1,e2,e3,g3,g1⟩:=LI.o.kp.fB;have i1:=au (LI.o.fr.2 _ _ HE2.o Cc.o.1 Cc.o.2 (by simp)) 1 (v:=.slice F.a F.l F.c) rfl;clear h)|((first|(go_at_call 52;refine(valueOf (A.sc (.u _)) (by simp[A.dN,T.ty]) _ (fun _=>True) _ rfl).mono ?_)|(go_at_call 207;refine(lZ _ _ _ _).mono ?_));rintro e w7 ⟨rfl,hb⟩;have LI:=ah (LI.o.old hb);have ⟨b0,b1⟩:=LI.o.kp.box;have ⟨p,hp,e0,e1,e2,e3,g3,g1⟩:=LI.o.kp.fB;have i1:=au (LI.o.fr.2 _ _ HE2.o Cc.o.1 Cc.o.2 (by simp)) 1 (v:=.slice F.a F.l F.c) rfl;clear hb)|((first|(go_at_call 175;refine(DV LI.o.kp.en _ d aiy (by have:=LM.o;omega)).mono ?_)|(go_at_call 143;refine(fV LI.o.kp.en al2 hal2 (by have:=LM.o;omega)).mono ?_));rintro e w7 ⟨rfl,h1,h2⟩;have LI:=ah (LI.o.step h1 h2);have ⟨b0,b1⟩:=LI.o.kp.box;have ⟨p,hp,e0,e1,e2,e3,g3,g1⟩:=LI.o.kp.fB;have i1:=au (LI.o.fr.2 _ _ HE2.o Cc.o.1 Cc.o.2 (by simp)) 1 (v:=.slice F.a F.l F.c) rfl;clear h1 h2)|((first|(go_at_call 70;refine(xG TT _).mono ?_)|(go_at_call 206;refine(akv.o _).mono ?_));rintro e w7 ⟨rfl,rfl⟩)|(go_at_call 144;refine(WT.o _ _ _ LI.o (by have:=LM.o;omega)).mono ?_;rintro e w8 ⟨rfl,h1,h2⟩;obtain⟨pz,hpz,hez⟩:=LI.o.kp.en.enc;have hez:=h2.ee.trans hez;have ⟨e0,e1,e2,e3,g3,g1⟩:=jC hez;have aqR:pz≤900000000:=(by have:=HKB.o;have:=LM.o;omega);have HF:=ah h1;have zu:=ah h2.fr;have HPZ:=ah hpz;clear h1 h2 hez hpz))
   go_end0
   exact⟨rfl,HF.o.alR zu.o (p:=pz) (q:=L) (by omega) (by have:=HPZ.o;omega) (by have:=HLI.o;rw[Ed.o]at this;omega)⟩
def akE (n:Nat) (vs:List Value) (ks:bG) (w:World) (e:Ending) (w':World):Prop :=
 ∃A c',e=.returned (.slice A n c')∧Below w.heap.size w w'∧(0<n→∃h kc,A=some ⟨h,0,none⟩∧w'.heap[h]?=some (.cells kc 94 (0,0))∧∀i (hi:i<vs.length),kc[i*2]?=some vs[i]∧kc[i*2+1]?=some (.string ks))
theorem afK (b n c:Nat) (A:Option Addr) (vs:List Value) (ks:bG) (ty s2:Value) (sg:bG) (w:World) (hb:w.heap[b]?=some (.cells #[.string ks,ty,.slice A n c,s2] 132 (0,0)))
  (hn:vs.length=n) (hm:n≤1000000) (hcell:0<n→∃g,A=some ⟨g,0,none⟩∧∀i v,vs[i]?=some v→w.cell? ⟨g,i,none⟩=some v) (hif:∀i (h:i<vs.length),∃t u,vs[i]=.iface t u) :
  Calls prog 84 #[.agg #[.iface 129 (.pointer (some ⟨b,0,none⟩)),.string sg]] w (akE n vs ks w):=by
 by_cases h0:0<n
 ·obtain⟨g,rfl,hc⟩:=hcell h0
  refine(ab1 b g n c vs ks ty s2 sg w hb hn h0 hm hc hif).mono ?_
  rintro e w' ⟨h,c',kc,rfl,-,hk,hi,hb⟩
  exact⟨_,c',rfl,hb,fun _=>⟨h,kc,rfl,hk,hi⟩⟩
 ·have hn0:n=0:=by omega
  subst hn0
  have HB:=ah ((jM w).alloc bW (.cells #[.iface 129 (.pointer (some ⟨b,0,none⟩)),.string sg] 94))
  have KB:=ah (aQ hb (.cells #[.iface 129 (.pointer (some ⟨b,0,none⟩)),.string sg] 94))
  have k0:=au KB.o 0 (v:=.string ks) rfl
  have k2:=au KB.o 2 (v:=.slice A 0 c) rfl
  clear hb hn hcell hif h0
  go_enter func84,ntmps84
  go_wp2
  go_loopw [3,15] (fun r t wr=>r=.slice none 0 0∧t=.int .i64 0∧wr=w.alloc (.cells #[.iface 129 (.pointer (some ⟨b,0,none⟩)),.string sg] 94)) (fun _ _ _=>0)
  case atStart=>exact⟨rfl,rfl,rfl⟩
  case round =>
   obtain⟨rfl,rfl,rfl⟩:=hrel
   go_wp2
   go_ret
   exact⟨_,_,rfl,HB.o,fun h=>absurd h (by omega)⟩
structure akJ (X Y Z:Nat):Prop where
 o:X≤Y+Z
theorem aaR (kd:UInt8) (t:T) (ks es:List A) (hg:(A.dict kd t ks es).dN.f_) (h:(A.dict kd t ks es).wQ) (ihk:∀(i:Nat) (h:i<ks.length),mG ks[i]) (ihe:∀(i:Nat) (h:i<es.length),mG es[i]):mG (.dict kd t ks es):=by
 intro ok v E B M F W0 w d hv hT hE hM h0 hd
 obtain⟨bp,s1,s2,vs1,vs2,rfl,-,hbk,hr1,Gq,hr2,OX⟩:=id hv
 obtain⟨hle,hlm,⟨xs,hxs,hnd,hxk⟩,OY,htg,hko,hfk,hfe⟩:=h
 have hlen1:=Gq.len
 have hlen2:=OX.len
 obtain⟨A1,p1,rfl,hc1,hcm1,hrow1⟩:=hr1.cell
 obtain⟨A2,p2,rfl,hc2,hcm2,hrow2⟩:=hr2.cell
 simp only[A.ec,A.dep]at hM hd ⊢
 obtain⟨al,hal,ql⟩:=UE (kd::t.ty)
 have hkw:kJ kd:=hg.1.1
 rw[show (A.dict kd t ks es).dN.ty=123::kd::t.ty from rfl]
 have hvx:∀i (h:i<xs.length) (h':i<vs1.length),vs1[i]=(xs[i]).val:=fun i h h'=>by
  obtain⟨v,hv1,hv2⟩:=Gq.get i (by rw[hxs];simpa using h)
  rw[gQ h']at hv1
  cases hv1
  have:ks[i]'(by rw[hxs];simpa using h)=A.sc xs[i]:=by subst hxs;simp
  rw[this]at hv2
  exact hv2
 have hxl:xs.length=ks.length:=by rw[hxs];simp
 have ZP:=ah (fun i h=>by rw[hvx i (by omega) h];exact qQ _:∀i (h:i<vs1.length),∃t u,vs1[i]=.iface t u)
 have ahB:=ah (fun i j h h' hij w=>by rw[hvx i (by omega) h,hvx j (by omega) h'];exact Xe _ _ (hxk _ (nZ _)).1 ((hxk _ (nZ _)).2.trans (hxk _ (nZ _)).2.symm) (fun e=>List.pairwise_iff_getElem.1 hnd i j (by omega) (by omega) hij e) w:∀i j (h:i<vs1.length) (h':j<vs1.length),i<j→∀w,(binOp .eql 20 vs1[i] vs1[j]).run prog w=.ok (.bool false) w)
 have ahx:=ah (fun j h' w=>by rw[hvx j (by omega) h'];exact MX _ (hxk _ (nZ _)).1 w:∀j (h':j<vs1.length),∀w,(binOp .eql 20 vs1[j] vs1[j]).run prog w=.ok (.bool true) w)
 have al3:∀i (h:i<ks.length),(ks[i]).dN.ty=[kd]:=fun i h=>by
  have hi:i<xs.length:=by rw[hxl];exact h
  have hx:=(hxk xs[i] (nZ _)).2
  have:ks[i]=A.sc xs[i]:=by subst hxs;simp
  rw[this]
  simp only[A.dN,T.ty,hx]
 have apK:=ah al3
 have adW:=ah (fun i h=>by rw[OY _ (nZ h)]:∀i (h:i<es.length),(es[i]).dN.ty=t.ty)
 obtain⟨TT,OT⟩:∃TT,t.ty=TT:=⟨_,rfl⟩
 rw[OT]at ql hbk adW ⊢
 obtain⟨n,hn⟩:∃n,vs1.length=n:=⟨_,rfl⟩
 have hn2:vs2.length=n:=by omega
 rw[hn,hn2]at hbk
 rw[hn]at hrow1
 rw[hn2]at hrow2
 have HN:=ah (⟨hn,hn2,by omega,by omega⟩:vs1.length=n∧vs2.length=n∧ks.length=n∧es.length=n)
 have HR1:=ah hrow1
 have HR2:=ah hrow2
 have ahz:=ah Gq
 have ahA:=ah OX
 have PT:=ah hT
 have IHA:=ah ihk
 have IHB:=ah ihe
 have BX:=ah hbk
 obtain⟨C1,hC1⟩:∃C,A.qM ks=C:=⟨_,rfl⟩
 obtain⟨C2,hC2⟩:∃C,A.qM es=C:=⟨_,rfl⟩
 obtain⟨D,hD⟩:∃D,max (A.nS ks) (A.nS es)+1=D:=⟨_,rfl⟩
 rw[hC1,hC2]at hM ⊢
 obtain⟨C,hC⟩:∃C,C1+C2=C:=⟨_,rfl⟩
 rw[hC]at hM ⊢
 have QC:=ah (⟨hC1,hC2,hC,hD⟩:A.qM ks=C1∧A.qM es=C2∧C1+C2=C∧max (A.nS ks) (A.nS es)+1=D)
 have LD:ahE d D:=⟨h0,by omega⟩
 have LM:akI F.k M C n:=⟨hM,by omega⟩
 have hdd:d≤62:=by omega
 have aiy:d≤64:=by omega
 have HKB:=ah hE.kb
 have vV:=ah ql
 have nY:=ah hE.size
 have HWW:=ah hE.eX.size
 have KP:=ah (Kp.new hE #[.iface 129 (.pointer (some ⟨bp,0,none⟩)),.string (bs (123::kd::TT))])
 clear hE hv Gq OX hr1 hr2 hc1 hc2 hcm1 hcm2 hrow1 hrow2 hT ihk ihe hg OT hlen1 hlen2 hn hn2 hC1 hC2 hC hD hM hd ql hlm hbk OY htg hko hfk hfe hnd hxk hvx hxl hxs hle al3
 obtain⟨b0,b1⟩:=KP.o.box
 go_enter func175,ntmps175
 go_wp2_with (first|((first|(go_at_call 207;refine(lZ _ _ _ _).mono ?_)|(go_at_call 77;refine(lN _ _ 123 _ 14 rfl _).mono ?_));rintro e w1 ⟨rfl,hb⟩;have KP:=ah (KP.o.old hb);have ⟨b0,b1⟩:=KP.o.box;clear hb)|((first|(go_at_call 206;refine(vV.o _).mono ?_)|(go_at_call 69;refine(Bd kd TT _).mono ?_)|(go_at_call 103;refine(Pn kd _ hkw).mono ?_));rintro e w1 ⟨rfl,rfl⟩)|(go_at_call 143;refine(fV KP.o.en al hal (by have:=LM.o;omega)).mono ?_;rintro e w1 ⟨rfl,h1,h2⟩;have KP:=ah (KP.o.step h1 h2);have ⟨b0,b1⟩:=KP.o.box;clear h1 h2)|(go_at_call 84;refine(afK bp n p1 A1 vs1 _ _ _ _ _ ((KP.o.en.eX.block _ (lt_of_block BX.o)).trans BX.o) HN.o.1 LM.o.2 (fun hp=>by obtain⟨g,hg,hc⟩:=HR1.o hp;exact⟨g,hg,fun i v h=>(KP.o.en.eX.cell (fA W0 _ (hc i v h))).trans (hc i v h)⟩) ZP.o).mono ?_;rintro e w2 ⟨AK,ck,rfl,hb,hkr⟩;have KP:=ah (KP.o.old hb);have ⟨b0,b1⟩:=KP.o.box;have HKR:=ah hkr;clear hb hkr)|(go_at_call 176;obtain⟨p,hp,he⟩:=KP.o.en.enc;have HE:=ah he;have HP:=ah hp;have e3:=au he 3 (v:=.int .i64 p) rfl;refine(rF E p 0 _ _ _ 4 (by omega) (by have:=LM.o;have:=HKB.o;omega) (by omega) _ he).mono ?_;clear he hp;rintro e w1 ⟨⟨q1,hq1,rfl⟩,rfl⟩;refine Hid.o ?_))
 refine ah ?_
 have ZU:=ah (by have:=HP.o;have:=HKB.o;have:=LM.o;omega:p≤870000000)
 have hpl:p≤870000000:=ZU.o
 have HQ4:((q1:Int)+4)=((q1+4:Nat):Int):=by omega
 have HQ:=ah HQ4
 clear HQ4
 have HW1:=ah KP.o.fr.eX.size
 clear b0 b1 e3
 have e3:=au HE.o 3 (v:=.int .i64 p) rfl
 go_wp2
 have HED:=ah (show w1.drew.heap[E]?=some (.cells #[.iface 142 (.pointer (some ⟨B,0,none⟩)),.slice F.a F.l F.c,.iface 160 (.agg #[]),.int .i64 p] 220 (0,0))from HE.o)
 refine H_ ((fun w'=>w'.cell? ⟨E,3,none⟩=some (.int .i64 p))) fun hHeld=>?_
 refine dL 0 ?_
 refine dL 1 ?_
 refine dL 2 ?_
 refine dL 3 ?_
 refine dL 4 ?_
 refine dL 6 ?_
 refine dL 7 ?_
 refine dL 5 ?_
 refine rn 8 fun K hK=>?_
 go_simp
 rw[HQ.o];refine(rF E p (q1+4) _ _ _ 8 (by omega) (by omega) (by omega) _ HED.o).mono ?_;rintro e w4 ⟨⟨q2,hq2,rfl⟩,rfl⟩
 (try go_wp2_with fail)
 refine ji hK ?_;clear hK K hHeld;intro hHeld
 refine rn 9 fun K hK=>?_
 go_simp
 refine ji hK ?_;clear hK K hHeld;intro hHeld
 refine rn 10 fun K hK=>?_
 go_simp
 refine ji hK ?_;clear hK K hHeld;intro hHeld
 refine lX ?_
 obtain⟨q,hq,hqq⟩:∃q:Nat,IntKind.i64.wrap (IntKind.i64.wrap ((p:Int)+((q1:Int)+4))+(q2:Int))=(q:Int)∧q=p+q1+4+q2:=⟨p+q1+4+q2,by rw[IntKind.wrap_i64,IntKind.wrap_i64];omega,rfl⟩
 rw[hq]
 have HQQ:=ah (by have:=HP.o;have:=HKB.o;have:=LM.o;omega:q≤F.k+M+40∧q≤870000000)
 clear hq hqq hHeld e3 HE
 have Ie:=ah (KP.o.old jc.drew)
 have akw:=ah (show 0<n→∃h kc,AK=some ⟨h,0,none⟩∧w1.drew.heap[h]?=some (.cells kc 94 (0,0))∧∀i (hi:i<vs1.length),kc[i*2]?=some vs1[i]∧kc[i*2+1]?=some (.string (bs [kd]))from HKR.o)
 obtain⟨w4,hw4⟩:∃w4,w1.drew=w4:=⟨_,rfl⟩
 rw[hw4]at Ie akw ⊢
 clear KP HKR hw4 HED
 have KPA:=ah (Ie.o.old (gG (.cells #[.slice none 0 0,.int .i64 0,.int .i8 0] 151)))
 obtain⟨b0,b1⟩:=KPA.o.box
 obtain⟨pa,hpa,e0,e1,e2,e3,g3,g1⟩:=KPA.o.fB
 clear e0 e3 g3 g1 hpa
 go_wp2
 refine H_ ((fun w'=>w'.cell? ⟨E,2,none⟩=some (.iface 160 (.agg #[]))∧w'.cell? ⟨E,1,none⟩=some (.slice F.a F.l F.c))) fun hHeld=>?_
 refine dL 0 ?_
 refine dL 1 ?_
 refine dL 2 ?_
 refine dL 3 ?_
 refine dL 4 ?_
 refine dL 5 ?_
 refine dL 6 ?_
 refine dL 7 ?_
 refine dL 8 ?_
 refine dL 9 ?_
 refine rn 10 fun K hK=>?_
 go_simp
 refine(Tz _ _ _ _ _ q _).mono ?_;rintro e w5 ⟨rfl,hn5,hb5⟩;have KP5:=ah (KPA.o.old (jc.drew.trans hb5));have ⟨pb,hpb,e0,e1,e2,e3,g3,g1⟩:=KP5.o.fB
 (try go_wp2_with fail)
 refine ji hK ?_;clear hK K hHeld;intro hHeld
 refine rn 11 fun K hK=>?_
 go_simp
 refine ji hK ?_;clear hK K hHeld;intro hHeld
 refine lX ?_
 have EN5:=ah (En.fresh (W:=w4) F.a F.l F.c q (by have:=HQQ.o;have:=HKB.o;have:=LM.o;omega) (by simpa using hn5) (jc.drew.trans hb5))
 clear KPA KP5 hb5 hn5 b0 b1 e0 e1 e2 e3 g3 g1 hHeld hpb
 go_wp2
 go_loopw [513] (fun t wr=>∃(k X:Nat),k≤n∧t=.int .i64 k∧akJ X (A.qM (ks.take k)) (A.qM (es.take k))∧aj (En (w4.heap.size+1) w4.heap.size ⟨F.a,F.l,F.c,q⟩ X w4 wr)) (fun t _=>n-(intOf t).toNat)
 case atStart=>exact⟨0,0,jf _,rfl,⟨jf _⟩,⟨EN5.o⟩⟩
 case round =>
  clear EN5
  obtain⟨k,X,hkn,rfl,LX,en⟩:=hrel
  have EN:=ah en.o
  clear en
  have hmk:n≤1000000:=LM.o.2
  by_cases hk:k<n
  ·have hkl:k<ks.length:=by rw[HN.o.2.2.1];exact hk
   have hke:k<es.length:=by rw[HN.o.2.2.2];exact hk
   have hkv:k<vs1.length:=by rw[HN.o.1];exact hk
   obtain⟨vk,hvk,BU⟩:=ahz.o.get k hkl
   obtain⟨tk,uk,rfl⟩:=BU.iface
   obtain⟨ve,hve,HAe⟩:=ahA.o.get k hke
   obtain⟨tv,uv,rfl⟩:=HAe.iface
   obtain⟨g1,rfl,hc1⟩:=HR1.o (by omega)
   obtain⟨g2,rfl,hc2⟩:=HR2.o (by omega)
   obtain⟨H,kc,rfl,hH,hkc⟩:=akw.o (by omega)
   have HC1:=ah hc1
   have HC2:=ah hc2
   have Lj:vs1[k]=.iface tk uk:=by rw[gQ hkv]at hvk;exact dU hvk
   have Qn:=ah (fun i h hi=>Lj▸ahB.o i k h hkv hi:∀i (h:i<vs1.length),i<k→∀w,(binOp .eql 20 vs1[i] (.iface tk uk)).run prog w=.ok (.bool false) w)
   have HEQ:=ah (Lj▸ahx.o k hkv:∀w,(binOp .eql 20 (.iface tk uk) (.iface tk uk)).run prog w=.ok (.bool true) w)
   have ahD:=ah hvk
   have ahC:=ah hve
   have hHr:=(EN.o.eX.block _ (lt_of_block hH)).trans hH
   obtain⟨hq0,hq1⟩:=hkc k hkv
   rw[Lj]at hq0
   have h0k:=au hHr (k*2) hq0
   have h1k:=au hHr (k*2+1) hq1
   have Qo:=ah (BU.below Ie.o.en.eX)
   have HVE:=ah (HAe.below Ie.o.en.eX)
   have PT4:=ah (Utf8Tabs_below PT.o Ie.o.en.eX)
   have c1:=A.zS ks k hkl
   have c2:=A.zT ks (k+1)
   have c3:=A.wP ks k hkl
   have d1:=A.zS es k hke
   have d2:=A.zT es (k+1)
   have d3:=A.wP es k hke
   have hXC:q+(X+16+(ks[k]).ec)+(es[k]).ec≤60000000:=by have:=LX.o;have:=LM.o;have:=HQQ.o;have:=QC.o;omega
   have hdk:d+2+((ks[k]).dep:Int)≤64:=by have:=LD.o;have:=QC.o;omega
   have hde:d+2+((es[k]).dep:Int)≤64:=by have:=LD.o;have:=QC.o;omega
   have hdp:0≤d+2:=by have:=LD.o;omega
   have Ef:=ah (fun w' (hE':En (w4.heap.size+1) w4.heap.size ⟨F.a,F.l,F.c,q⟩ (X+16) w4 w')=>(by
    have h:=IHA.o k hkl ok _ _ _ (X+16) _ w4 w' (d+2) Qo.o PT4.o hE' (by show q+(X+16)+_≤_;omega) hdp hdk
    rw[apK.o k hkl]at h
    exact h:Calls prog 175 #[.pointer (some ⟨w4.heap.size+1,0,none⟩),.agg #[.iface tk uk,.string (bs [kd])],.int .i64 (d+2)] w' (rP (w4.heap.size+1) w4.heap.size ⟨F.a,F.l,F.c,q⟩ (X+16+(ks[k]).ec) w4 w')))
   have IHE:=ah (fun w' (hE':En (w4.heap.size+1) w4.heap.size ⟨F.a,F.l,F.c,q⟩ (X+16+(ks[k]).ec) w4 w')=>(by
    have h:=IHB.o k hke ok _ _ _ (X+16+(ks[k]).ec) _ w4 w' (d+2) HVE.o PT4.o hE' (by show q+_+_≤_;omega) hdp hde
    rw[adW.o k hke]at h
    exact h:Calls prog 175 #[.pointer (some ⟨w4.heap.size+1,0,none⟩),.agg #[.iface tv uv,.string (bs TT)],.int .i64 (d+2)] w' (rP (w4.heap.size+1) w4.heap.size ⟨F.a,F.l,F.c,q⟩ (X+16+(ks[k]).ec+(es[k]).ec) w4 w')))
   have hX1:X≤60000000:=by omega
   have LX2:akJ (X+16+(ks[k]).ec+(es[k]).ec) (A.qM (ks.take (k+1))) (A.qM (es.take (k+1))):=⟨by have:=LX.o;omega⟩
   have h00:0≤d:=LD.o.1
   generalize (ks[k]).ec=CX at *
   generalize (es[k]).ec=CY at *
   generalize (ks[k]).dep=DX at *
   generalize (es[k]).dep=DY at *
   have Jo:(k:Int)<n:=by omega
   have KI:=ah (Kp.new EN.o #[.iface tk uk,.string (bs [kd])])
   have KR:=ah (Ie.o.old KI.o.en.eX)
   obtain⟨b0,b1⟩:=KR.o.box
   obtain⟨q0,q1c⟩:=KI.o.box
   clear c1 c2 c3 d1 d2 d3 hXC hdk hde hdp BU HAe hvk hve Lj hc1 hc2 hH hkc hq0 hq1 hHr LX EN
   go_wp2_with (first|((first|(go_at_call 143;refine(fV KI.o.en 8 (by omega) (by omega)).mono ?_)|(go_at_call 175;(with_reducible show Calls prog 175 #[_,Value.agg #[Value.iface tk uk,_],_] _ _);refine(Ef.o _ KI.o.en).mono ?_)|(go_at_call 175;refine(IHE.o _ KI.o.en).mono ?_));rintro e w6 ⟨rfl,h1,h2⟩;have KI:=ah (KI.o.step h1 h2);have KR:=ah (Ie.o.old KI.o.en.eX);have ⟨b0,b1⟩:=KR.o.box;have ⟨q0,q1c⟩:=KI.o.box;clear h1 h2)|(go_at_call 86;refine(ag5 bp g1 g2 n p1 p2 k vs1 vs2 _ _ _ tk tv uk uv _ ((KR.o.en.eX.block _ (lt_of_block BX.o)).trans BX.o) HN.o.1 HN.o.2.1 hk hmk (fun i v h=>(KR.o.en.eX.cell (fA W0 _ (HC1.o i v h))).trans (HC1.o i v h)) (fun i v h=>(KR.o.en.eX.cell (fA W0 _ (HC2.o i v h))).trans (HC2.o i v h)) ZP.o ahD.o ahC.o Qn.o HEQ.o).mono ?_;rintro e w6 ⟨rfl,hb⟩;have KI:=ah (KI.o.old hb);have KR:=ah (Ie.o.old KI.o.en.eX);have ⟨b0,b1⟩:=KR.o.box;have ⟨q0,q1c⟩:=KI.o.box;clear hb))
   all_goals (
    go_roundw
    case rel=>exact⟨k+1,_,hk,by go_num,LX2,⟨KI.o.en⟩⟩
    case measure=>simp[intOf];omega)
  ·have hke:n=k:=by omega
   subst hke
   have Jo:decide ((n:Int)<(n:Int))=false:=by simp
   obtain⟨li,hli,LI0⟩:=Li.new Ie.o EN.o
   have LI:=ah LI0
   clear LI0
   obtain⟨pi,-,he2⟩:=EN.o.enc
   have HE2:=ah he2
   have Cc:=ah (by have:=Ie.o.en.ltE;have:=Ie.o.en.size;constructor<;>omega:w4.heap.size+1≠E∧w4.heap.size+1≠B)
   have HLI:=ah (by have:=LX.o;have h:=QC.o;rw[kT (by rw[HN.o.2.2.1];exact bW),kT (by rw[HN.o.2.2.2];exact bW)]at this;omega:li.length≤C)
   obtain⟨L,hL⟩:∃L,li.length=L:=⟨_,rfl⟩
   have Ed:=ah hL
   have hLm:L≤60000000:=by have:=HLI.o;have:=LM.o;omega
   have EW:=ah (fun cs M' W (h:Li E B w.heap.size w4.heap.size F M' W0 w cs li wr W)=>(by have h:=h.len;rw[Ed.o]at h;exact h:Calls prog 134 #[.pointer (some ⟨w4.heap.size,0,none⟩)] W fun e w'=>e=.returned (.int .i64 L)∧Li E B w.heap.size w4.heap.size F M' W0 w cs li wr w'))
   have HSW:=ah (⟨nY.o,HWW.o,Ie.o.fr.eX.size⟩:B<w.heap.size∧W0.heap.size≤w.heap.size∧w.heap.size≤w4.heap.size)
   have WT:=ah (fun cs M' W (h:Li E B w.heap.size w4.heap.size F M' W0 w cs li wr W) (hM':M'+L≤1000000000)=>(by
    have h':=Hu (ws:=W) li h.kp.en ⟨h.kp.fr,rfl⟩ HSW.o.1 HSW.o.2.1 HSW.o.2.2 h.aiT (by rw[Ed.o];omega) (by rw[Ed.o];exact hM')
    rw[Ed.o]at h'
    exact h':Calls prog 144 #[.pointer (some ⟨w4.heap.size,0,none⟩),.iface 142 (.pointer (some ⟨B,0,none⟩))] W fun e w'=>e=.returned (.tuple #[.int .i64 L,.nilIface])∧En E B F (M'+L) W0 w'∧Fe E B w W w'))
   clear hL hli he2 EN LX
   obtain⟨b0,b1⟩:=LI.o.kp.box
   obtain⟨p,hp,e0,e1,e2,e3,g3,g1⟩:=LI.o.kp.fB
   have i1:=au HE2.o 1 (v:=.slice F.a F.l F.c) rfl
   go_wp2_with (first|((first|(go_at_call 134;(with_reducible refine(EW.o _ _ _ LI.o).mono ?_))|(go_at_call 134;(with_reducible refine(EW.o _ _ _ LI.o.fds).mono ?_)));rintro e w7 ⟨rfl,h⟩;have LI:=ah h;have ⟨b0,b1⟩:=LI.o.kp.box;have ⟨p,hp,e0,e1,e2,e3,g3,g1⟩:=LI.o.kp.fB;have i1:=au (LI.o.fr.2 _ _ HE2.o Cc.o.1 Cc.o.2 (by simp)) 1 (v:=.slice F.a F.l F.c) rfl;clear h)|(go_at_call 52;refine(valueOf (A.sc (.u _)) (by simp[A.dN,T.ty]) _ (fun _=>True) _ rfl).mono ?_;rintro e w7 ⟨rfl,hb⟩;have LI:=ah (LI.o.old hb);have ⟨b0,b1⟩:=LI.o.kp.box;have ⟨p,hp,e0,e1,e2,e3,g3,g1⟩:=LI.o.kp.fB;have i1:=au (LI.o.fr.2 _ _ HE2.o Cc.o.1 Cc.o.2 (by simp)) 1 (v:=.slice F.a F.l F.c) rfl;clear hb)|((first|(go_at_call 175;refine(DV LI.o.kp.en _ d aiy (by have:=LM.o;omega)).mono ?_)|(go_at_call 143;refine(fV LI.o.kp.en 8 (by omega) (by have:=LM.o;omega)).mono ?_));rintro e w7 ⟨rfl,h1,h2⟩;have LI:=ah (LI.o.step h1 h2);have ⟨b0,b1⟩:=LI.o.kp.box;have ⟨p,hp,e0,e1,e2,e3,g3,g1⟩:=LI.o.kp.fB;have i1:=au (LI.o.fr.2 _ _ HE2.o Cc.o.1 Cc.o.2 (by simp)) 1 (v:=.slice F.a F.l F.c) rfl;clear h1 h2)|(go_at_call 144;refine(WT.o _ _ _ LI.o (by have:=LM.o;omega)).mono ?_;rintro e w8 ⟨rfl,h1,h2⟩;obtain⟨pz,hpz,hez⟩:=LI.o.kp.en.enc;have hez:=h2.ee.trans hez;have ⟨e0,e1,e2,e3,g3,g1⟩:=jC hez;have aqR:pz≤900000000:=(by have:=HKB.o;have:=LM.o;omega);have HF:=ah h1;have zu:=ah h2.fr;have HPZ:=ah hpz;clear h1 h2 hez hpz))
   go_end0
   exact⟨rfl,HF.o.alR zu.o (p:=pz) (q:=L) (by omega) (by have:=HPZ.o;omega) (by have:=HLI.o;rw[Ed.o]at this;omega)⟩
end Go.Proofs.YtllcccekodcdmaaGreatDoor.Ms
namespace Go.Proofs.YtllcccekodcdmaaGreatDoor.Ms
open Go Go.RowKit
theorem Zy (c:UInt8) (h:pq c=true):c.toNat<128∧c≠0:=by
 unfold pq at h
 simp only[Bool.or_eq_true,Bool.and_eq_true,decide_eq_true_eq,beq_iff_eq,UInt8.le_iff_toNat_le]at h
 have e:∀k:UInt8,k.toNat=k.toNat:=fun _=>rfl
 have e1:(57:UInt8).toNat=57:=rfl
 have e2:(90:UInt8).toNat=90:=rfl
 have e3:(122:UInt8).toNat=122:=rfl
 have e4:(48:UInt8).toNat=48:=rfl
 have e5:(65:UInt8).toNat=65:=rfl
 have e6:(97:UInt8).toNat=97:=rfl
 refine⟨?_,fun h0=>?_⟩
 ·rcases h with ((h|h)|h)|h
  ·omega
  ·omega
  ·omega
  ·subst h;decide
 ·subst h0
  have e7:(0:UInt8).toNat=0:=rfl
  rcases h with ((h|h)|h)|h
  ·omega
  ·omega
  ·omega
  ·exact absurd h (by decide)
theorem Dt:∀(l:List UInt8) (b:Bool),rH b l=true→∀c∈l,c.toNat<128∧c≠0
 |d::l,b,h,c,hc=>by
  unfold rH at h
  by_cases hd:d=47
  ·rw[if_pos hd,Bool.and_eq_true]at h
   rcases List.mem_cons.1 hc with rfl|hc
   ·subst hd;decide
   ·exact Dt l _ h.2 c hc
  ·rw[if_neg hd,Bool.and_eq_true]at h
   rcases List.mem_cons.1 hc with rfl|hc
   ·exact Zy _ h.1
   ·exact Dt l _ h.2 c hc
theorem YL (x:List UInt8) (h:je x=true):∀c∈x,c.toNat<128∧c≠0:=by
 rcases x with _|⟨a,l⟩
 ·simp
 simp only[je,Bool.and_eq_true,beq_iff_eq,Bool.or_eq_true,←wV]at h
 obtain⟨rfl,h⟩:=h
 intro c hc
 rcases List.mem_cons.1 hc with rfl|hc
 ·decide
 ·rcases h with h|h
  ·rw[List.isEmpty_iff]at h;subst h;simp at hc
  ·exact Dt l true h c hc
theorem CB.str {s:bG} (h:CB s):zI s:=by
 have ha:=YL _ h
 refine⟨?_,fun i hi=>(ha s[i] ?_).2⟩
 ·rw[Lib.validD_ascii s.data.toList.length s.data.toList (fun b hb=>(ha b (List.mem_of_mem_take hb)).1),List.drop_length]
  exact Lib.validD_nil
 ·exact nZ (l:=s.data.toList) (by rw[Array.length_toList];exact hi)
theorem A.uy:∀(l:List A),A.vW l→∀(i:Nat) (h:i<l.length),l[i].CW
 |a::l,h,0,_=>h.1
 |a::l,h,i+1,hi=>A.uy l h.2 i (by simpa using hi)
theorem U5 (n:Nat):∀(a:A),a.rk≤n→a.dN.f_→a.wQ→a.CW→mG a:=by
 induction n with
 |zero=>intro a h;exact absurd h (by have:=a.wU;omega)
 |succ n ih =>
  intro a hr hg hf he
  cases a with
  |sc x =>
   refine ah4 x hf ?_
   cases x<;>first|trivial|exact he|skip
   rename_i v
   have hs:v.size≤1000000:=hf
   have he:CB v:=he
   refine⟨he.str,fun W=>?_⟩
   have h:=Jw v.data.toList (by rw[Array.length_toList];exact hs) W
   rw[o8,show je v.data.toList=true from he]at h
   exact h
  |var t a =>
   obtain⟨h1,h2,h3⟩:=hf
   simp only[A.rk]at hr
   exact aeC t a h1 h2 (ih a (by omega) h2 h3 he)
  |jJ l =>
   obtain⟨h1,h2,h3⟩:=hf
   simp only[A.rk]at hr
   refine aaT l hg h2 h1 (fun e=>hg.1.1 (by rw[e];rfl)) (fun i hi=>?_)
   have:=A.nH l i hi
   exact ih _ (by omega) (h2 _ (nZ hi)) (A.oH l h3 i hi) (A.uy l he i hi)
  |list t l =>
   obtain⟨h1,h2,h3,h4⟩:=hf
   simp only[A.rk]at hr
   refine aaS t l hg h3.1 h1 (fun i hi=>?_) (fun i hi=>h2 _ (nZ hi))
   have:=A.nH l i hi
   exact ih _ (by omega) ((h2 _ (nZ hi)).symm▸h3) (A.oH l h4 i hi) (A.uy l he i hi)
  |dict k t ks es =>
   obtain⟨h1,h2,⟨xs,hxs,hx⟩,h4,h5,h6,h7,h8⟩:=id hf
   simp only[A.rk]at hr
   refine aaR k t ks es hg hf (fun i hi=>?_) (fun i hi=>?_)
   ·have:=A.nH ks i hi
    refine ih _ (by omega) ?_ (A.oH ks h7 i hi) (A.uy ks he.1 i hi)
    subst hxs
    rw[List.getElem_map]
    exact Pm _ (hx.2 _ (nZ _)).1
   ·have:=A.nH es i hi
    exact ih _ (by omega) ((h4 _ (nZ hi)).symm▸h5) (A.oH es h8 i hi) (A.uy es he.2 i hi)
end Go.Proofs.YtllcccekodcdmaaGreatDoor.Ms
