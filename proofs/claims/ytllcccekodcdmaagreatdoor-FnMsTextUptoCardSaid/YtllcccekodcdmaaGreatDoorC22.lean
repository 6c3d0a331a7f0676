import Derived.Test.YtllcccekodcdmaaGreatDoorC21
set_option linter.unusedVariables false
set_option linter.unusedSimpArgs false
set_option maxRecDepth 100000
set_option maxHeartbeats 32000000
open Go.Proofs.Tryz
namespace Go.Proofs.YtllcccekodcdmaaGreatDoor.Ms
open Go Go.RowKit Go.Proofs.ak.aT Go.Proofs.ak.cO Go.Proofs.YtllcccekodcdmaaGreatDoor.bK
theorem aaX (s sg:bG) (w:World) :
  fC 89 #[.agg #[.iface 68 (.agg #[.string s]),.string sg],.int .i64 0] w (.agg #[.iface 9 (.string s),.string (bs [115])]):=by
 have hB:=(((jM w).alloc bW (.cells #[.iface 68 (.agg #[.string s]),.string sg] 94)).alloc (by simp) (.cells #[.nilIface,.string ⟨#[]⟩] 94)).alloc (by simp;omega) (.cells #[.string s] 68)
 have HV:=ah (fun (w1:World)=>valueOf (A.sc (.s s)) (by simp[A.dN,T.ty]) (.iface 9 (.string s)) (fun _=>True) w1 rfl)
 have HB3:=aj.mk hB
 have KR:=aj.mk (aQ (aV (w.alloc (.cells #[.iface 68 (.agg #[.string s]),.string sg] 94)) (.cells #[.nilIface,.string ⟨#[]⟩] 94) (w.heap.size+1) (by simp)) (.cells #[.string s] 68))
 clear hB
 go_enter func89,ntmps89
 go_wp2_with (go_at_call 52;refine(HV.o _).mono ?_;rintro e w1 ⟨rfl,hb1⟩;have kr:=(hb1.block _ (lt_of_block KR.o)).trans KR.o;have k4:=au kr 0 (v:=.nilIface) rfl;have k5:=aI kr 0;have k6:=au kr 1 (v:=.string ⟨#[]⟩) rfl;have k7:=aI kr 1;have HB1:=aj.mk (HB3.o.trans (hb1.mono HB3.o.size));clear hb1 kr)
 refine iW (v:=.agg #[.iface 9 (.string s),.string (bs [115])]) (by simp[results,results89,go_sem,k4,k5,k6,k7];rfl) rfl ⟨rfl,?_⟩
 exact(HB1.o.setCell (by simp) _).setCell (by simp) _
theorem aj3 (k:Int) (sg:bG) (w:World):fC 111 #[.agg #[.iface 5 (.int .u8 k),.string sg]] w (.int .u64 (IntKind.u64.wrap k)):=by
 go_enter func111,ntmps111
 go_wp2
 go_ret
 exact⟨rfl,gG _⟩
theorem adA (k:Int):∃c:UInt8,IntKind.u8.wrap k=((c.toNat:Nat):Int):=by
 refine⟨UInt8.ofNat (k%256).toNat,?_⟩
 have h:=IntKind.wrap_u8 k
 have h1:(k%256).toNat<256:=by omega
 have h2:(UInt8.ofNat (k%256).toNat).toNat=(k%256).toNat:=by simp;omega
 rw[h,h2];omega
theorem Yw {B b V:Nat} {bs:List Value} {c:Array Value} {t:TypeId} {fz:Nat×Nat} {w w':World} (h:Lib.IsBuffer 151 5 B b bs w) (hV:w.heap[V]?=some (.cells c t fz)) (h1:t≠151) (h2:t≠5) (hs:∀k,k≠V→k<w.heap.size→w'.heap[k]?=w.heap[k]?):Lib.IsBuffer 151 5 B b bs w':=by
 obtain⟨hB,v,lr,hbk,hown,hne⟩:=h
 have hbV:b≠V:=by rintro rfl;rw[hV]at hbk;simp at hbk;exact h1 hbk.2.1
 refine⟨hB,v,lr,(hs b hbV (lt_of_block hbk)).trans hbk,⟨hown.1,?_⟩,hne⟩
 rcases hown.2 with hn|⟨g,cap,cur,hv,h0,hg,rest⟩
 ·exact .inl hn
 ·refine .inr ⟨g,cap,cur,hv,h0,(hs g ?_ (lt_of_block hg)).trans hg,rest⟩
  rintro rfl
  rw[hV]at hg
  simp at hg
  exact h2 hg.2.1
theorem agn {w:World} {g:Nat} {t:TypeId} {a:Value} (h:w.heap[g]?=some (.cells #[a] t (0,0))) (c:UInt8) (j:Nat) (v:Value) (hj:(Lib.byteCells [c])[j]?=some v):(w.setCell ⟨g,0,none⟩ (.int .u8 (c.toNat:Nat))).drew.cell? ((⟨g,0,none⟩:Addr).add j)=some v:=by
 rw[add_plain]
 have h2:=Joins.block_setCell h (i:=0) (.int .u8 (c.toNat:Nat))
 have h3:(w.setCell ⟨g,0,none⟩ (.int .u8 (c.toNat:Nat))).drew.heap[g]?=some (.cells #[.int .u8 (c.toNat:Nat)] t (0,0)):=h2
 refine au h3 j ?_
 rw[←hj]
 cases j<;>rfl
theorem Kp.cell {E B b0 M g i:Nat} {F:EF} {W0 w0 w:World} {cs c:Array Value} {t:TypeId} (h:Kp E B b0 F M W0 w0 cs w) (hg:w.heap[g]?=some (.cells c t (0,0))) (h1:t≠151) (h2:t≠5) (h3:t≠220) (h4:t≠94) (hw:w0.heap.size≤g) (hB:B≤w0.heap.size) (hw0:W0.heap.size≤g) (v:Value):Kp E B b0 F M W0 w0 cs (w.setCell ⟨g,i,none⟩ v):=by
 obtain⟨⟨p,hp,he⟩,⟨l,hl,hbuf⟩,hbel,hle,hlt,hkb⟩:=h.en
 have heg:E≠g:=by rintro rfl;rw[hg]at he;simp at he;exact h3 he.2
 have hbg:b0≠g:=by rintro rfl;have:=h.kr;rw[hg]at this;simp at this;exact h4 this.2
 have hBg:B≠g:=by rintro rfl;obtain⟨_,v',lr',hbk',_⟩:=hbuf;rw[hg]at hbk';simp at hbk';exact h1 hbk'.2
 have hs:∀k,k≠g→(w.setCell ⟨g,i,none⟩ v).heap[k]?=w.heap[k]?:=fun k hk=>ku _ _ _ _ hk
 refine⟨⟨⟨p,hp,(hs _ heg).trans he⟩,⟨l,hl,Yw hbuf hg h1 h2 (fun k hk _=>hs k hk)⟩,hbel.setCell (p:=⟨g,i,none⟩) hw0 _,hle,hlt,hkb⟩,⟨h.fr.1.setCell (p:=⟨g,i,none⟩) (by show B≤g;omega) _,fun k o ho a b c=>(hs k (by have:=lt_of_block ho;omega)).trans (h.fr.2 k o ho a b c),fun k=>⟨fun q1 q2 q3 q4=>(hs k (by omega)).trans ((h.fr.row k).1 q1 q2 q3 q4),fun ho=>(h.fr.row k).2 (ho.keep (hs _ hBg))⟩⟩,(hs _ hbg).trans h.kr,h.ne⟩
theorem RJ {E B M:Nat} {F:EF} {W0 w:World} (h:En E B F M W0 w) (T:TypeId) (k:Int) (hu:∀W,fC 111 #[.agg #[.iface T (.int .u8 k),.string (bs [121])]] W (.int .u64 (IntKind.u64.wrap k))) (d:Int) (hd:d≤64) (hM:M≤90000000) :
  Calls prog 175 #[.pointer (some ⟨E,0,none⟩),.agg #[.iface T (.int .u8 k),.string (bs [121])],.int .i64 d] w (rP E B F (M+64) W0 w):=by
 have KP:=ah (Kp.new h #[.iface T (.int .u8 k),.string (bs [121])])
 have hkb:=h.kb
 have AL:=ah (kP 121 (by simp[dM]))
 obtain⟨al,hal,ql⟩:=AL.o
 have vV:=ah ql
 have ht:(bs [121]).toList=[121]:=bH _
 have nY:=ah h.size
 have hme:=ig
 have hca:=call262
 obtain⟨c,hc⟩:∃c:UInt8,IntKind.u8.wrap (IntKind.u64.wrap k)=((c.toNat:Nat):Int):=adA _
 have HU:=ah hu
 clear hu
 clear h ql AL
 obtain⟨b0,b1⟩:=KP.o.box
 obtain⟨p,hp,e0,e1,e2,e3,g3,g1⟩:=KP.o.fB
 go_enter func175,ntmps175
 go_wp2_with (first
  |(go_at_call 207;refine(lZ _ _ _ _).mono ?_;rintro e w1 ⟨rfl,hb⟩;have KP:=ah (KP.o.old hb);have ⟨b0,b1⟩:=KP.o.box;have ⟨p,hp,e0,e1,e2,e3,g3,g1⟩:=KP.o.fB;clear hb)
  |(go_at_call 206;refine gU (vV.o _) ?_)
  |(go_at_call 143;refine(fV KP.o.en al hal (by omega)).mono ?_;rintro e w1 ⟨rfl,h1,h2⟩;have KP:=ah (KP.o.step h1 h2);have ⟨b0,b1⟩:=KP.o.box;have ⟨p,hp,e0,e1,e2,e3,g3,g1⟩:=KP.o.fB;clear h1 h2)
  |(go_at_call 77;refine(lN _ _ 121 _ 7 rfl _).mono ?_;rintro e w1 ⟨rfl,hb⟩;have KP:=ah (KP.o.old hb);have ⟨b0,b1⟩:=KP.o.box;have ⟨p,hp,e0,e1,e2,e3,g3,g1⟩:=KP.o.fB;clear hb;have BA:=ah (fun o=>(KP.o.old (gG o)).box);have ba0:=fun o=>(BA.o o).1;have ba1:=fun o=>(BA.o o).2;have HW1:=ah (KP.o.fr.1.size);have HWW:=ah KP.o.en.eX.size)
  |(go_at_call 111;refine(HU.o _).mono ?_;rintro e w2 ⟨rfl,hb⟩;have KR6:=ah ((hb.block _ (by simp)).trans (aV _ _ _ rfl));have KP:=ah ((KP.o.old (gG _)).old hb);have s6:=au KR6.o 0 (v:=.int .u8 0) rfl;have s7:=aI KR6.o 0;clear hb))
 have SRC:=ah (fun j v hj=>agn KR6.o c j v hj:∀j v,(Lib.byteCells [c])[j]?=some v→_)
 have KP:=ah ((KP.o.cell (i:=0) KR6.o (by decide) (by decide) (by decide) (by decide) HW1.o (Nat.le_of_lt nY.o) HWW.o (.int .u8 (c.toNat:Nat))).old (jc.drew))
 obtain⟨b0,b1⟩:=KP.o.box
 obtain⟨p,hp,e0,e1,e2,e3,g3,g1⟩:=KP.o.fB
 go_region_with (go_at_call 262;refine(KP.o.en.write [c] ⟨_,0,none⟩ 1 1 rfl (by have:=nY.o;have:=HW1.o;simp;omega) SRC.o (by omega)).mono ?_;rintro e w3 ⟨rfl,h1,h2⟩;have KP:=ah (KP.o.step h1 h2);have ⟨b0,b1⟩:=KP.o.box;have ⟨p,hp,e0,e1,e2,e3,g3,g1⟩:=KP.o.fB;clear h1 h2)
 all_goals (
  go_wp2
  go_end0
  exact⟨rfl,KP.o.fin (p:=p) (q:=1) (by omega) hp (by omega)⟩)
theorem aaU {E B M:Nat} {F:EF} {W0 w:World} (h:En E B F M W0 w) (k:Int) (d:Int) (hd:d≤64) (hM:M≤90000000) :
 Calls prog 175 #[.pointer (some ⟨E,0,none⟩),.agg #[.iface 5 (.int .u8 k),.string (bs [121])],.int .i64 d] w (rP E B F (M+64) W0 w):=RJ h 5 k (fun W=>aj3 k _ W) d hd hM
theorem alx {E B M:Nat} {F:EF} {W0 w:World} (h:En E B F M W0 w) (v:Bool) (d:Int) (hd:d≤64) (hM:M≤80000000) :
  Calls prog 175 #[.pointer (some ⟨E,0,none⟩),.agg #[.iface 4 (.bool v),.string (bs [98])],.int .i64 d] w (rP E B F (M+256) W0 w):=by
 have KP:=ah (Kp.new h #[.iface 4 (.bool v),.string (bs [98])])
 have hkb:=h.kb
 have AL:=ah (kP 98 (by simp[dM]))
 obtain⟨al,hal,ql⟩:=AL.o
 have vV:=ah ql
 have ht:(bs [98]).toList=[98]:=bH _
 have nY:=ah h.size
 have hme:=ig
 have hca:=call262
 clear h ql AL
 obtain⟨b0,b1⟩:=KP.o.box
 obtain⟨p,hp,e0,e1,e2,e3,g3,g1⟩:=KP.o.fB
 go_enter func175,ntmps175
 cases v
 ·go_wp2_with (first|((first|(go_at_call 207;refine(lZ _ _ _ _).mono ?_)|(go_at_call 77;refine(lN _ _ 98 _ 1 rfl _).mono ?_)|(go_at_call 208;refine(ahn _ _ _).mono ?_)|(go_at_call 52;refine(valueOf (A.sc (.u _)) (by simp[A.dN,T.ty]) _ (fun _=>True) _ rfl).mono ?_));rintro e w1 ⟨rfl,hb⟩;have KP:=ah (KP.o.old hb);have ⟨b0,b1⟩:=KP.o.box;have ⟨p,hp,e0,e1,e2,e3,g3,g1⟩:=KP.o.fB;clear hb)|(go_at_call 206;refine gU (vV.o _) ?_)|((first|(go_at_call 143;refine(fV KP.o.en al hal (by omega)).mono ?_)|(go_at_call 175;refine(DV KP.o.en _ d hd (by omega)).mono ?_));rintro e w1 ⟨rfl,h1,h2⟩;have KP:=ah (KP.o.step h1 h2);have ⟨b0,b1⟩:=KP.o.box;have ⟨p,hp,e0,e1,e2,e3,g3,g1⟩:=KP.o.fB;clear h1 h2))
  all_goals (
   go_end0
   exact⟨rfl,KP.o.en.mono (by omega),KP.o.fr⟩)
 ·go_wp2_with (first|((first|(go_at_call 207;refine(lZ _ _ _ _).mono ?_)|(go_at_call 77;refine(lN _ _ 98 _ 1 rfl _).mono ?_)|(go_at_call 208;refine(ahn _ _ _).mono ?_)|(go_at_call 52;refine(valueOf (A.sc (.u _)) (by simp[A.dN,T.ty]) _ (fun _=>True) _ rfl).mono ?_));rintro e w1 ⟨rfl,hb⟩;have KP:=ah (KP.o.old hb);have ⟨b0,b1⟩:=KP.o.box;have ⟨p,hp,e0,e1,e2,e3,g3,g1⟩:=KP.o.fB;clear hb)|(go_at_call 206;refine gU (vV.o _) ?_)|((first|(go_at_call 143;refine(fV KP.o.en al hal (by omega)).mono ?_)|(go_at_call 175;refine(DV KP.o.en _ d hd (by omega)).mono ?_));rintro e w1 ⟨rfl,h1,h2⟩;have KP:=ah (KP.o.step h1 h2);have ⟨b0,b1⟩:=KP.o.box;have ⟨p,hp,e0,e1,e2,e3,g3,g1⟩:=KP.o.fB;clear h1 h2))
  all_goals (
   go_end0
   exact⟨rfl,KP.o.en.mono (by omega),KP.o.fr⟩)
theorem ac2 (wa w6:World) (s:bG) (n:Nat) (hn:s.size=n) (hle:n≤1000000) (hbw:Below (wa.alloc (.cells (Lib.byteCells (List.replicate (n+1) 0)).toArray 5)).heap.size (wa.alloc (.cells (Lib.byteCells (List.replicate (n+1) 0)).toArray 5)) w6):∃W5,
  (Builtin.copy_ #[65,9] 3 #[.slice (some ⟨wa.heap.size,0,none⟩) (n+1) (n+1),.string s]).run prog w6=.ok (.int .i64 n) W5 ∧
  W5.cell? ⟨wa.heap.size,n,none⟩=some (.int .u8 0)∧W5.frozen? ⟨wa.heap.size,n,none⟩=false ∧
  Below wa.heap.size wa (W5.setCell ⟨wa.heap.size,n,none⟩ (.int .u8 0)) ∧
  (∀j v,(Lib.byteCells (s.data.toList++[0]))[j]?=some v→(W5.setCell ⟨wa.heap.size,n,none⟩ (.int .u8 0)).cell? ((⟨wa.heap.size,0,none⟩:Addr).add j)=some v):=by
 obtain⟨hB0,hb,-⟩:=dP hbw
 have hl2:(Lib.byteCells (List.replicate (n+1) (0:UInt8))).length=n+1:=by rw[Lib.byteCells_length,List.length_replicate]
 have hsl:(Lib.byteCells s.data.toList).length=n:=by rw[Lib.byteCells_length,←Lib.size_eq,hn]
 have h:=Lib.run_copy_row_string (P:=prog) w6 65 9 3 5 wa.heap.size 0 (n+1) (n+1) s _ 5 underlying65 (by kernel_rfl) hb (by omega) (by simp[hl2];omega)
 have hz:((Lib.byteCells (List.replicate (n+1) (0:UInt8))).toArray.toList.take 0++Lib.byteCells s.data.toList++(Lib.byteCells (List.replicate (n+1) (0:UInt8))).toArray.toList.drop (0+s.size))=Lib.byteCells (s.data.toList++[0]):=by
  rw[Lib.byteCells_append,List.take_zero,List.nil_append,Nat.zero_add,hn]
  congr 1
  show(Lib.byteCells (List.replicate (n+1) (0:UInt8))).drop n=_
  unfold Lib.byteCells
  rw[←List.map_drop,List.drop_replicate,show n+1-n=1 by omega]
  rfl
 rw[hz,hn]at h
 have hrow:=setRow_heap w6 wa.heap.size _ (Lib.byteCells (s.data.toList++[0])).toArray 5 (0,0) hb
 have hbel:=below_setRow hB0 (Nat.le_refl wa.heap.size) (Lib.byteCells (s.data.toList++[0])).toArray
 refine⟨_,h,?_,aI hrow n,hbel.setCell (p:=⟨wa.heap.size,n,none⟩) bW _,fun j v hj=>?_⟩
 ·refine au hrow n ?_
  rw[List.getElem?_toArray,Lib.byteCells_append,List.getElem?_append_right (by omega),hsl,Nat.sub_self]
  rfl
 ·rw[add_plain]
  have h2:=Joins.block_setCell hrow (i:=n) (.int .u8 0)
  refine au h2 j ?_
  by_cases e:j=n
  ·subst e
   have hv:v=.int .u8 0:=by
    rw[Lib.byteCells_append,List.getElem?_append_right (by omega),hsl,Nat.sub_self]at hj
    exact(dU hj).symm
   rw[hv,Array.getElem?_setIfInBounds_self_of_lt]
   have h3:(Lib.byteCells (s.data.toList++[0])).length=j+1:=by rw[Lib.byteCells_append,dY,hsl];rfl
   simp[h3]
  ·rw[Array.getElem?_setIfInBounds_ne (fun h=>e h.symm),List.getElem?_toArray]
   exact hj
theorem ag4 {E B M:Nat} {F:EF} {W0 w:World} (h:En E B F M W0 w) (s:bG) (hsz:s.size≤1000000) (d:Int) (hd:d≤64) (hM:M≤80000000) :
  Calls prog 175 #[.pointer (some ⟨E,0,none⟩),.agg #[.iface 68 (.agg #[.string s]),.string (bs [103])],.int .i64 d] w (rP E B F (M+2*s.size+256) W0 w):=by
 have KP:=ah (Kp.new h #[.iface 68 (.agg #[.string s]),.string (bs [103])])
 have hkb:=h.kb
 have AL:=ah (kP 103 (by simp[dM]))
 obtain⟨al,hal,ql⟩:=AL.o
 have vV:=ah ql
 have ht:(bs [103]).toList=[103]:=bH _
 have nY:=ah h.size
 have hme:=ig
 have hca:=call262
 obtain⟨n,hn⟩:∃n,s.size=n:=⟨_,rfl⟩
 have HN:=ah hn
 have hmk:∀w,(Instr.makeSlice 65 (.int .i64 ((n:Int)+1)) (.int .i64 ((n:Int)+1))).run prog w=.ok (.slice (some ⟨w.heap.size,0,none⟩) (n+1) (n+1)) (w.alloc (.cells (Lib.byteCells (List.replicate (n+1) 0)).toArray 5)):=fun w=>lJ (n+1) (by omega) w
 clear h ql AL
 obtain⟨b0,b1⟩:=KP.o.box
 obtain⟨p,hp,e0,e1,e2,e3,g3,g1⟩:=KP.o.fB
 go_enter func175,ntmps175
 go_wp2_with (first|((first|(go_at_call 207;refine(lZ _ _ _ _).mono ?_)|(go_at_call 77;refine(lN _ _ 103 _ 18 rfl _).mono ?_)|(go_at_call 52;refine(valueOf (A.sc (.y _)) (by simp[A.dN,T.ty]) _ (fun _=>True) _ rfl).mono ?_));rintro e w1 ⟨rfl,hb⟩;have KP:=ah (KP.o.old hb);have ⟨b0,b1⟩:=KP.o.box;have ⟨p,hp,e0,e1,e2,e3,g3,g1⟩:=KP.o.fB;clear hb)|(go_at_call 206;refine gU (vV.o _) ?_)|((first|(go_at_call 143;refine(fV KP.o.en al hal (by omega)).mono ?_)|(go_at_call 175;refine(aaU KP.o.en _ d hd (by omega)).mono ?_));rintro e w1 ⟨rfl,h1,h2⟩;have KP:=ah (KP.o.step h1 h2);have ⟨b0,b1⟩:=KP.o.box;have ⟨p,hp,e0,e1,e2,e3,g3,g1⟩:=KP.o.fB;clear h1 h2)|(go_at_call 89;refine(aaX s _ _).mono ?_;rintro e w1 ⟨rfl,hb⟩;have KP:=ah (KP.o.old hb);have apI:=ah KP.o.fr;have KP:=ah (Kp.new KP.o.en #[.iface 9 (.string s),.string (bs [115])]);have ⟨b0,b1⟩:=KP.o.box;have ⟨p,hp,e0,e1,e2,e3,g3,g1⟩:=KP.o.fB;clear hb)|(go_at_call 78;refine(adr s _ _).mono ?_;rintro e w1 ⟨rfl,hb⟩;rw[HN.o];have KP:=ah (KP.o.old hb);have ⟨b0,b1⟩:=KP.o.box;have ⟨p,hp,e0,e1,e2,e3,g3,g1⟩:=KP.o.fB;have BA:=ah (fun o=>(KP.o.old (gG o)).box);have ba0:=fun o=>(BA.o o).1;have ba1:=fun o=>(BA.o o).2;clear hb)|(go_at_call 211;refine(ads s _ _).mono ?_;rintro e w6 ⟨rfl,hb⟩;obtain⟨W5,hcopy,hc5,hf5,hb5,hs5⟩:=ac2 _ w6 s n HN.o (by omega) hb;have H1:=ah KP.o.en.size;have KP:=ah (KP.o.old hb5);have HS5:=ah hs5;have ⟨b0,b1⟩:=KP.o.box;have ⟨p,hp,e0,e1,e2,e3,g3,g1⟩:=KP.o.fB;clear hb hb5 hs5)|(go_at_call 262;refine(KP.o.en.write (s.data.toList++[0]) ⟨_,0,none⟩ (n+1) (n+1) (by rw[dY,←Lib.size_eq,HN.o];rfl) (by have:=H1.o;simp;omega) HS5.o (by omega)).mono ?_;rintro e w3 ⟨rfl,h1,h2⟩;have KP:=ah (KP.o.step h1 h2);have ⟨b0,b1⟩:=KP.o.box;have ⟨p,hp,e0,e1,e2,e3,g3,g1⟩:=KP.o.fB;clear h1 h2))
 all_goals (
  go_end0
  have r:=KP.o.fin (M':=M+2*s.size+256) (p:=p) (q:=n+1) (x:=(p:Int)+((n:Int)+1)) (by omega) hp (by have:=HN.o;omega)
  exact⟨rfl,r.1,apI.o.trans r.2⟩)
def Sc.ec:Sc→Nat
 | .s v=>2*v.size+256| .o v=>2*v.size+256| .g v=>2*v.size+256| _=>256
mutual
def A.ec:A→Nat
 | .sc x=>x.ec
 | .var t a=>a.ec+2*t.sig.length+1024
 | .jJ l=>A.qM l+1024
 | .list _ l=>A.qM l+1024
 | .dict _ _ ks vs=>A.qM ks+A.qM vs+1024
def A.qM:List A→Nat
 |[]=>0
 |a::l=>a.ec+64+A.qM l
end
mutual
def A.dep:A→Nat
 | .sc _=>0
 | .var _ a=>a.dep+1
 | .jJ l=>A.nS l+1
 | .list _ l=>A.nS l+1
 | .dict _ _ ks vs=>max (A.nS ks) (A.nS vs)+2
def A.nS:List A→Nat
 |[]=>0
 |a::l=>max a.dep (A.nS l)
end
theorem A.vF:∀x y:List A,A.qM (x++y)=A.qM x+A.qM y
 |[],y=>by simp[A.qM]
 |a::x,y=>by simp only[lF,A.qM,A.vF x y];omega
theorem A.zS (l:List A) (k:Nat) (h:k<l.length):A.qM (l.take (k+1))=A.qM (l.take k)+(l[k]).ec+64:=by
 rw[lu h,A.vF];simp[A.qM];omega
theorem A.zT (l:List A) (k:Nat):A.qM (l.take k)≤A.qM l:=by
 have:=A.vF (l.take k) (l.drop k)
 rw[List.take_append_drop]at this;omega
theorem A.wP:∀(l:List A) (i:Nat) (h:i<l.length),(l[i]).dep≤A.nS l
 |a::l,0,h=>by simp only[List.getElem_cons_zero,A.nS];omega
 |a::l,i+1,h=>by
  have:=A.wP l i (by simpa using h)
  simp only[List.getElem_cons_succ,A.nS];omega
def mG (a:A):Prop:=∀(ok:Nat→Prop) (v:Value) (E B M:Nat) (F:EF) (W0 w:World) (d:Int),HA W0 ok a v→Lib.Utf8Tabs 8 9 W0→En E B F M W0 w→F.k+M+a.ec≤60000000→0≤d→d+a.dep≤64 →
 Calls prog 175 #[.pointer (some ⟨E,0,none⟩),.agg #[v,.string (bs a.dN.ty)],.int .i64 d] w (rP E B F (M+a.ec) W0 w)
def Sc.eok:Sc→Prop
 | .s v=>zI v
 | .o v=>zI v∧∀W,fC 170 #[.string v] W (.bool true)
 | _=>True
theorem rP.mono {E B M M':Nat} {F:EF} {W0 w w':World} {e:Ending} (h:rP E B F M W0 w e w') (hm:M≤M'):rP E B F M' W0 w e w':=⟨h.1,h.2.1.mono hm,h.2.2⟩
theorem ah4 (x:Sc) (hr:x.vK) (he:x.eok):mG (.sc x):=by
 intro ok v E B M F W0 w d hv hT hE hM h0 hd
 rw[show v=x.val from hv]
 have h64:d≤64:=by simp only[A.dep]at hd;omega
 clear hd
 simp only[A.ec]at hM ⊢
 cases x with
 |y k=>exact(aaU hE k d h64 (by simp only[Sc.ec]at hM;omega)).mono fun e w' h=>h.mono (by simp only[Sc.ec];omega)
 |n k=>exact(alB hE k d h64 (by simp only[Sc.ec]at hM;omega)).mono fun e w' h=>h.mono (by simp only[Sc.ec];omega)
 |q k=>exact(alD hE k d h64 (by simp only[Sc.ec]at hM;omega)).mono fun e w' h=>h.mono (by simp only[Sc.ec];omega)
 |i k=>exact(alA hE k d h64 (by simp only[Sc.ec]at hM;omega)).mono fun e w' h=>h.mono (by simp only[Sc.ec];omega)
 |u k=>exact(DV hE k d h64 (by simp only[Sc.ec]at hM;omega)).mono fun e w' h=>h.mono (by simp only[Sc.ec];omega)
 |x k=>exact(alG hE k d h64 (by simp only[Sc.ec]at hM;omega)).mono fun e w' h=>h.mono (by simp only[Sc.ec];omega)
 |t k =>
  obtain⟨n,rfl⟩:∃n:Nat,k=n:=⟨k.toNat,by have:=hr.1;omega⟩
  exact(alF hE n (by have:=hr.2;omega) d h64 (by simp only[Sc.ec]at hM;omega)).mono fun e w' h=>h.mono (by simp only[Sc.ec];omega)
 |h k=>exact(alz hE k d h64 (by simp only[Sc.ec]at hM;omega)).mono fun e w' h=>h.mono (by simp only[Sc.ec];omega)
 |b v=>exact(alx hE v d h64 (by simp only[Sc.ec]at hM;omega)).mono fun e w' h=>h.mono (by simp only[Sc.ec];omega)
 |d k=>exact(aly hE k hr d h64 (by simp only[Sc.ec]at hM;omega)).mono fun e w' h=>h.mono (by simp only[Sc.ec];omega)
 |s v=>exact(alE hE v he hr hT d h64 (by simp only[Sc.ec]at hM;omega)).mono fun e w' h=>h.mono (by simp only[Sc.ec];omega)
 |o v=>exact(alC hE v he.1 hr hT he.2 d h64 (by simp only[Sc.ec]at hM;omega)).mono fun e w' h=>h.mono (by simp only[Sc.ec];omega)
 |g v=>exact(ag4 hE v hr d h64 (by simp only[Sc.ec]at hM;omega)).mono fun e w' h=>h.mono (by simp only[Sc.ec];omega)
structure apQ (M C L:Nat):Prop where
 o:M+(C+2*L+1024)≤60000000
theorem afW (M C L:Nat) (h:M+(C+2*L+1024)≤60000000):apQ M C L:=⟨h⟩
theorem aeC (t:T) (a:A) (hta:t=a.dN) (hg:a.dN.f_) (ih:mG a):mG (.var t a):=by
 intro ok v E B M F W0 w d hv hT hE hM h0 hd
 obtain⟨u,rfl,ha⟩:=hv
 obtain⟨t',u',rfl⟩:=ha.iface
 simp only[A.ec,A.dep]at hM hd ⊢
 have hty:(A.var t a).dN.ty=[118]:=rfl
 rw[hty]
 have hgl:a.dN.ty.length≤1000000:=hg.2.2.2
 have hsl:(bs t.sig).size≤1000000:=by rw[aH,hta];have:=hg.2.2.1;omega
 have hsz:(bs t.sig).size=t.sig.length:=aH _
 have VO:=ah (fun W (hb:Below W0.heap.size W0 W)=>valueOf a hgl _ ok W (ha.below hb))
 have IH:=ah (fun M' w' (hE':En E B F M' W0 w') (hM':F.k+M'+a.ec≤60000000)=>ih ok _ E B M' F W0 w' (d+1) ha hT hE' hM' (by omega) (by omega))
 obtain⟨S,hS⟩:∃S,bs t.sig=S:=⟨_,rfl⟩
 rw[hS]at hsl hsz ⊢
 generalize t.sig.length=L at *
 generalize a.ec=C at *
 generalize a.dep=D at *
 have KP:=ah (Kp.new hE #[.iface 70 (.agg #[.string S,.iface t' u']),.string (bs [118])])
 have hkb:=hE.kb
 have nY:=ah hE.size
 have HEZ:=ah hE.ltE
 obtain⟨al,hal,ql⟩:=kP 118 (by simp[dM])
 have vV:=ah ql
 have ht:(bs [118]).toList=[118]:=bH _
 have VG:=ah (fun W=>valueOf (A.sc (.g S)) (by simp[A.dN,T.ty]) _ (fun _=>True) W rfl:∀W,fC 52 #[.iface 68 (.agg #[.string S])] W (.agg #[.iface 68 (.agg #[.string S]),.string (bs [103])]))
 have hdd:d≤63:=by omega
 have h00:0≤d:=h0
 have HM:=afW (F.k+M) C L hM
 have HD:=ah (⟨h0,hd,hsz,hsl,hgl,hkb⟩:_∧_∧_∧_∧_∧_)
 clear ih ha ql hT hE hta hg hS hM hd h0 hsz hsl hgl hkb
 obtain⟨b0,b1⟩:=KP.o.box
 obtain⟨p,hp,e0,e1,e2,e3,g3,g1⟩:=KP.o.fB
 go_enter func175,ntmps175
 go_wp2_with (first|((first|(go_at_call 207;refine(lZ _ _ _ _).mono ?_)|(go_at_call 77;refine(lN _ _ 118 _ 18 rfl _).mono ?_));rintro e w1 ⟨rfl,hb⟩;have KP:=ah (KP.o.old hb);have ⟨b0,b1⟩:=KP.o.box;have ⟨p,hp,e0,e1,e2,e3,g3,g1⟩:=KP.o.fB;clear hb)|(go_at_call 206;refine gU (vV.o _) ?_)|(go_at_call 143;refine(fV KP.o.en al hal (by have:=HM.o;omega)).mono ?_;rintro e w1 ⟨rfl,h1,h2⟩;have KP:=ah (KP.o.step h1 h2);have ⟨b0,b1⟩:=KP.o.box;have ⟨p,hp,e0,e1,e2,e3,g3,g1⟩:=KP.o.fB;clear h1 h2)|(go_at_call 53;refine(AY _ _ _ _).mono ?_;rintro e w1 ⟨rfl,hb⟩;have KP:=ah (KP.o.old hb);have ⟨b0,b1⟩:=KP.o.box;have ⟨p,hp,e0,e1,e2,e3,g3,g1⟩:=KP.o.fB;clear hb;refine Hid.o ?_))
 refine ah ?_
 have Qn:=ah (by have:=KP.o.fr.1.size;have:=KP.o.en.eX.size;have:=nY.o;have:=HEZ.o;constructor<;>omega:w1.heap.size≠E∧w1.heap.size≠B)
 have KP:=ah (KP.o.old (gG (.cells #[.string S,.iface t' u'] 70)))
 have ZW:=ah (aV w1 (.cells #[.string S,.iface t' u'] 70) _ rfl)
 have s0:=au ZW.o 0 (v:=.string S) rfl
 have s1:=au ZW.o 1 (v:=.iface t' u') rfl
 clear b0 b1 e0 e1 e2 e3 g3 g1
 go_wp2_with (first|((first|(go_at_call 52;(with_reducible show Calls prog 52 #[Value.iface 68 _] _ _);refine(VG.o _).mono ?_)|(go_at_call 52;refine(VO.o _ KP.o.en.eX).mono ?_));rintro e w2 ⟨rfl,hb⟩;have KP:=ah (KP.o.old hb);have ZW:=ah ((hb.block _ (lt_of_block ZW.o)).trans ZW.o);have s0:=au ZW.o 0 (v:=.string S) rfl;have s1:=au ZW.o 1 (v:=.iface t' u') rfl;clear hb)|(go_at_call 175;(with_reducible show Calls prog 175 #[_,Value.agg #[Value.iface 68 _,_],_] _ _);refine(ag4 KP.o.en S HD.o.2.2.2.1 (d+1) (by have:=HD.o;omega) (by have:=HM.o;omega)).mono ?_;rintro e w2 ⟨rfl,h1,h2⟩;have KP:=ah (KP.o.step h1 h2);have ZW:=ah (h2.2 _ _ ZW.o Qn.o.1 Qn.o.2 (by simp));have s0:=au ZW.o 0 (v:=.string S) rfl;have s1:=au ZW.o 1 (v:=.iface t' u') rfl;clear h1 h2)|(go_at_call 175;refine(IH.o _ _ KP.o.en (by have:=HM.o;have:=HD.o.2.2.1;omega)).mono ?_;rintro e w2 ⟨rfl,h1,h2⟩;have KP:=ah (KP.o.step h1 h2);clear h1 h2))
 go_end0
 exact⟨rfl,KP.o.en.mono (by have:=HM.o;have:=HD.o.2.2.1;omega),KP.o.fr⟩
end Go.Proofs.YtllcccekodcdmaaGreatDoor.Ms
namespace Go.Proofs.YtllcccekodcdmaaGreatDoor.Ms
open Go Go.RowKit Go.Proofs.ak.aT Go.Proofs.YtllcccekodcdmaaGreatDoor.bK
mutual
def A.CW:A→Prop
 | .sc x=>x.CW
 | .var _ a=>a.CW
 | .jJ l=>A.vW l
 | .list _ l=>A.vW l
 | .dict _ _ ks vs=>A.vW ks∧A.vW vs
def A.vW:List A→Prop
 |[]=>True
 |a::l=>a.CW∧A.vW l
end
mutual
def Rn:dS→Prop
 |⟨_,n,_,l⟩=>(0≤n∧n<18446744073709551616)∧ZE l
def ZE:List dS→Prop
 |[]=>True
 |a::l=>Rn a∧ZE l
end
structure Tree (x:dS) (a:A):Prop where
 door:a.dN.fits 0 0 0→uS (Qw x) a
 sig:a.dN.sig=jh x
 wf:a.dN.wf
 Dz:a.dN.Dz
 wQ:a.dN.fits 0 0 0→a.wQ
 eok:a.CW
 tl:a.tl+2≤10*jv x+400*kZ x
 ec:a.ec+64≤2*jv x+2000*kZ x
 dep:a.dep≤wO x+1
 leaf:(oI x.f0∧a=.sc (oL x))∨((x.f0=97∨x.f0=40∨x.f0=118)∧∀y,a≠.sc y)
def Trees:List dS→List A→Prop
 |[],us=>us=[]
 |x::l,us=>∃a us',us=a::us'∧Tree x a∧Trees l us'
theorem BI:∀l:List dS,(∀(i:Nat) (h:i<l.length),∃a,Tree l[i] a)→∃us,Trees l us
 |[],_=>⟨[],rfl⟩
 |x::l,h=>by
  obtain⟨a,ha⟩:=h 0 (by simp)
  obtain⟨us,has⟩:=BI l (fun i hi=>h (i+1) (by simpa using hi))
  exact⟨a::us,a,us,rfl,ha,has⟩
theorem Trees.len:∀{l:List dS} {us:List A},Trees l us→us.length=l.length
 |[],us,h=>by cases (show us=[]from h);rfl
 |x::l,us,h=>by
  obtain⟨a,us',rfl,ha,h'⟩:=h
  simp[Trees.len h']
theorem Trees.at:∀{l:List dS} {us:List A},Trees l us→∀(i:Nat) (h:i<l.length) (h':i<us.length),Tree l[i] us[i]
 |x::l,us,h,0,_,_=>by
  obtain⟨a,us',rfl,ha,h'⟩:=h
  exact ha
 |x::l,us,h,i+1,hi,hi'=>by
  obtain⟨a,us',rfl,ha,h'⟩:=h
  exact Trees.at h' i (by simpa using hi) (by simpa using hi')
theorem Trees.doors {l:List dS} {us:List A} (h:Trees l us) (hf:∀e∈us,e.dN.fits 0 0 0):Doors (jw l) us :=
 ⟨by rw[oN,h.len],fun i hi hi'=>by
   have hl:i<l.length:=by rw[←h.len];exact hi
   rw[Hl l i hl]
   exact(h.at i hl hi).door (hf _ (nZ hi))⟩
theorem Trees.facts:∀{l:List dS} {us:List A},Trees l us→T.sigs (A.iZ us)=iY l∧T.NV (A.iZ us)∧T.Ht (A.iZ us)∧A.vW us∧A.Iz us≤10*dJ l+400*eu l∧A.qM us≤2*dJ l+2000*eu l∧A.nS us≤oG l+1
 |[],us,h=>by cases (show us=[]from h);exact⟨rfl,trivial,trivial,trivial,bW,bW,jf _⟩
 |x::l,us,h=>by
  obtain⟨a,us',rfl,ha,h'⟩:=h
  obtain⟨f1,f2,f3,f4,f5,f6,f7⟩:=Trees.facts h'
  have h1:=ha.tl
  have h2:=ha.ec
  have h3:=ha.dep
  refine⟨by simp only[A.iZ,T.sigs,iY,ha.sig,f1],⟨ha.wf,f2⟩,⟨ha.Dz,f3⟩,⟨ha.eok,f4⟩,?_,?_,?_⟩
  ·simp only[A.Iz,dJ,eu];omega
  ·simp only[A.qM,dJ,eu];omega
  ·simp only[A.nS,oG];omega
theorem Trees.get:∀{l:List dS} {us:List A},Trees l us→∀(e:A),e∈us→∃(i:Nat) (h:i<l.length),Tree l[i] e
 |[],us,h,e,he=>by cases (show us=[]from h);simp at he
 |x::l,us,h,e,he=>by
  obtain⟨a,us',rfl,ha,h'⟩:=h
  rcases List.mem_cons.1 he with rfl|he
  ·exact⟨0,by simp,ha⟩
  ·obtain⟨i,hi,ht⟩:=Trees.get h' e he
   exact⟨i+1,by simpa using hi,ht⟩
theorem A.zY:∀us:List A,(∀e∈us,e.wQ)→A.Gl us
 |[],_=>trivial
 |a::us,h=>⟨h a (by simp),A.zY us (fun e he=>h e (by simp[he]))⟩
theorem Jj:∀(ts:List T) (a s d:Int),T.qC ts a s d→∀t∈ts,t.fits a s d
 |t::ts,a,s,d,h,u,hu=>by
  rcases List.mem_cons.1 hu with rfl|hu
  ·exact h.1
  ·exact Jj ts a s d h.2 u hu
theorem BH:∀(ts:List T),∀t∈ts,t.sig.length≤(T.sigs ts).length
 |u::ts,t,ht=>by
  simp only[T.sigs,dY]
  rcases List.mem_cons.1 ht with rfl|ht
  ·omega
  ·have:=BH ts t ht;omega
theorem Hf:∀(us:List A) (e:A),e∈us→e.dN∈A.iZ us
 |a::us,e,he=>by
  rcases List.mem_cons.1 he with rfl|he
  ·simp[A.iZ]
  ·simp only[A.iZ,List.mem_cons];exact .inr (Hf us e he)
theorem Ae (t:T) (hw:t.wf) (hf:t.fits 0 0 0) (hs:t.sig.length≤255):t.f_:=⟨hw,hf,hs,by have:=T.D9 t;omega⟩
theorem adb (n:Int) (l:List dS) (us:List A) (hne:l≠[]) (h:Trees l us) (hs:(jh ⟨40,n,⟨#[]⟩,l⟩).length≤255) (hc:eu l≤400):Tree ⟨40,n,⟨#[]⟩,l⟩ (.jJ us):=by
 obtain⟨f1,f2,f3,f4,f5,f6,f7⟩:=h.facts
 have hlen:=h.len
 have hll:=fK l
 have hsig:jh ⟨40,n,⟨#[]⟩,l⟩=40::(iY l++[41]):=by rw[lT];rfl
 have hbl:jv ⟨40,n,⟨#[]⟩,l⟩=dJ l:=by rw[xA];show 0+_=_;omega
 rw[hsig]at hs
 have hts:A.iZ us≠[]:=by
  cases us with
  |nil=>simp at hlen;exact absurd (List.length_eq_zero_iff.1 hlen.symm) hne
  |cons a us=>simp[A.iZ]
 have hg:(A.dN (.jJ us)).fits 0 0 0→∀e∈us,e.dN.f_:=fun hf e he=>by
  obtain⟨i,hi,ht⟩:=h.get e he
  have hm:=BH _ _ (Hf us e he)
  rw[f1]at hm
  simp only[d_,dY,kW]at hs
  exact Ae _ ht.wf (T.uF _ _ _ _ _ _ _ (Int.le_refl _) (by decide) (Int.le_refl _) (Jj _ _ _ _ (show T.qC (A.iZ us) 0 1 0 from hf.2) _ (Hf us e he))) (by omega)
 refine⟨fun hf=>?_,?_,⟨hts,f2⟩,⟨hts,f3⟩,fun hf=>?_,f4,?_,?_,?_,.inr ⟨.inr (.inl rfl),fun y h=>by cases h⟩⟩
 ·have hd:=h.doors (fun e he=>(hg hf e he).2.1)
  rw[tY]
  exact fun A3 c3 w' hc hcc=>aaK us (jw l) hd.1 (by omega) n ⟨#[]⟩ A3 c3 w' hc hcc (fun i hi hi'=>hd.2 i hi hi')
 ·rw[hsig,←f1];rfl
 ·refine⟨by omega,hg hf,A.zY us (fun e he=>?_)⟩
  obtain⟨i,hi,ht⟩:=h.get e he
  exact ht.wQ (hg hf e he).2.1
 ·rw[hbl,vg];simp only[A.tl];omega
 ·rw[hbl,vg];simp only[A.ec];omega
 ·rw[xE];simp only[A.dep];simp;omega
theorem Zl (n:Int) (s:bG) (l:List dS) (us:List A) (t:T) (hs:s.data.toList=t.sig) (hw0:t.Dz) (hf:t.fits 0 0 0) (hk:lD s.data.toList) (C_:∀kid∈l,jh kid=s.data.toList) (h:Trees l us) (hsl:(jh ⟨97,n,s,l⟩).length≤255) (hc:eu l≤400):Tree ⟨97,n,s,l⟩ (.list t us):=by
 obtain⟨f1,f2,f3,f4,f5,f6,f7⟩:=h.facts
 have hlen:=h.len
 have hll:=fK l
 have hsig:jh ⟨97,n,s,l⟩=97::s.data.toList:=by rw[lT];rfl
 rw[hsig]at hsl
 have hw:t.wf:=T.Qh t hw0 (by rw[←hs];exact hk)
 have hg:t.f_:=Ae t hw hf (by rw[←hs];simp only[d_]at hsl;omega)
 have hty:∀e∈us,e.dN=t:=fun e he=>by
  obtain⟨i,hi,ht⟩:=h.get e he
  have:=ht.sig
  rw[C_ _ (nZ hi),hs]at this
  exact(T.BG e.dN t [] [] ht.Dz hw0 (by simp[this])).1
 have ho:=A.zY us (fun e he=>by
  obtain⟨i,hi,ht⟩:=h.get e he
  exact ht.wQ (by rw[hty e he];exact hf))
 have hbl:jv ⟨97,n,s,l⟩=s.size+dJ l:=xA _ _ _ _
 refine⟨fun _=>?_,?_,hw,hw0,fun _=>⟨by omega,hty,hg,ho⟩,f4,?_,?_,?_,.inr ⟨.inl rfl,fun y h=>by cases h⟩⟩
 ·have hd:=h.doors (fun e he=>by rw[hty e he];exact hf)
  rw[tY,show s=bs t.sig by rw[←hs,o8]]
  exact fun A3 c3 w' hc hcc=>X8 t hw hf (by have:=hg.2.2.1;omega) us (jw l) hd.1 (by omega) n A3 c3 w' hc hcc (fun i hi hi'=>hd.2 i hi hi')
 ·rw[hsig,hs];rfl
 ·rw[hbl,vg];simp only[A.tl];omega
 ·rw[hbl,vg];simp only[A.ec];omega
 ·rw[xE];simp only[A.dep];simp;omega
theorem ade (n:Int) (x:dS) (a:A) (h:Tree x a) (hg:E_ (jh x)):Tree ⟨118,n,⟨#[]⟩,[x]⟩ (.var a.dN a):=by
 obtain⟨ts,w1,w2,w3⟩:=hg.2.1
 have e1:=D8 a.dN ts h.Dz w1 (by rw[←w3,h.sig])
 rw[e1]at w2
 have hf:a.dN.fits 0 0 0:=w2.1
 have hgd:a.dN.f_:=Ae _ h.wf hf (by rw[h.sig];exact hg.1)
 have ho:=h.wQ hf
 have hd:=h.door hf
 have h1:=h.tl
 have h2:=h.ec
 have h3:=h.dep
 have hl:a.dN.sig.length≤255:=hgd.2.2.1
 have hbl:jv ⟨118,n,⟨#[]⟩,[x]⟩=jv x:=by rw[xA];simp only[dJ];show 0+_=_;omega
 have hcn:kZ ⟨118,n,⟨#[]⟩,[x]⟩=1+kZ x:=by rw[vg];simp only[eu];omega
 refine⟨fun _=>?_,?_,by simp[A.dN,T.wf,dM],by simp[A.dN,T.Dz],fun _=>⟨rfl,hgd,ho⟩,h.eok,?_,?_,?_,.inr ⟨.inr (.inr rfl),fun y h=>by cases h⟩⟩
 ·rw[tY]
  exact fun A3 c3 w' hc hcc=>aaL a hgd (Qw x) [] n ⟨#[]⟩ A3 c3 w' hc hcc hd
 ·rw[lT];rfl
 ·rw[hbl,hcn];simp only[A.tl];omega
 ·rw[hbl,hcn];simp only[A.ec];omega
 ·rw[xE];simp only[A.dep,oG];simp;omega
theorem JI (x:dS) (hk:oI x.f0) (hu:0≤x.f1∧x.f1<18446744073709551616) (hs:x.f2.size≤65536) (ht:Td x):Tree x (.sc (oL x)):=by
 obtain⟨h1,h2,h3,h4,h5⟩:=Bj x hk hu hs ht
 have hcode:[(oL x).code]=jh x:=by
  rw[lT,if_neg (by rcases hk with h|h|h|h|h|h|h|h|h|h|h|h|h<;>omega),if_neg (by rcases hk with h|h|h|h|h|h|h|h|h|h|h|h|h<;>omega),if_neg (by rcases hk with h|h|h|h|h|h|h|h|h|h|h|h|h<;>omega),←h1]
  simp
 have hb:basic (oL x).code∧dM (oL x).code:=by
  cases oL x<;>simp[Sc.code,basic,dM]
 have hst:∀v:bG,(oL x=.s v∨oL x=.o v∨oL x=.g v)→v=x.f2:=by
  intro v hv
  rcases hv with hv|hv|hv<;>(rw[hv]at h2;exact h2)
 refine⟨fun _=>?_,hcode,hb.2,.inl hb.1,fun _=>h3,h4,?_,?_,jf _,.inl ⟨hk,rfl⟩⟩
 ·rw[tY,←h1]
  exact fun A3 c3 w' hc hcc=>(aex (oL x) x.f1 x.f2 h2 A3 _ c3 w').mono (fun e w' h=>⟨_,h.1,rfl,h.2⟩)
 ·rw[jF,iG]
  simp only[A.tl]
  generalize hsc:oL x=y at *
  cases y<;>simp only[Sc.tl]<;>first|omega|(rename_i v;have:=hst v (by simp);subst this;omega)
 ·rw[jF,iG]
  simp only[A.ec]
  generalize hsc:oL x=y at *
  cases y<;>simp only[Sc.ec]<;>first|omega|(rename_i v;have:=hst v (by simp);subst this;omega)
theorem PD (x:dS) (hk:oI x.f0):jh x=[UInt8.ofNat x.f0.toNat]:=by
 rw[lT,if_neg (by rcases hk with h|h|h|h|h|h|h|h|h|h|h|h|h<;>omega),if_neg (by rcases hk with h|h|h|h|h|h|h|h|h|h|h|h|h<;>omega),if_neg (by rcases hk with h|h|h|h|h|h|h|h|h|h|h|h|h<;>omega)]
theorem aaW (e:dS) (q:UInt8) (x:List UInt8) (hx:x≠[]) (ht:Td e) (hs:jh e=123::q::(x++[125])):e.f0=123∧∃k v,e.f3=[k,v]∧oI k.f0∧jh k=[q]∧jh v=x∧v.f0≠123∧Td k∧Td v:=by
 obtain⟨kd,n,s,l⟩:=e
 rw[lT]at hs
 simp only at hs
 by_cases h97:kd=97
 ·rw[if_pos h97]at hs;simp at hs
 rw[if_neg h97]at hs
 by_cases NU:kd=40
 ·rw[if_pos NU]at hs;simp at hs
 rw[if_neg NU]at hs
 by_cases mP:kd=123
 ·rw[if_pos mP]at hs
  subst mP
  obtain⟨-,-,-,-,-,-,t7,t8,-,-,t11⟩:=ht
  obtain⟨hlen,hb⟩:=t8 rfl
  match l,hlen,hb,t7,t11,hs with
  |[k,v],_,hb,t7,t11,hs =>
   have hk:=Fg _ hb
   have hsk:=PD k hk
   simp only[iY,hsk,lF,List.nil_append,List.append_nil,List.cons.injEq,true_and]at hs
   refine⟨rfl,k,v,rfl,hk,by rw[hsk,hs.1],List.append_cancel_right hs.2,(t7 (.inr rfl)).2 v (by simp),t11.1,t11.2.1⟩
 ·rw[if_neg mP]at hs;simp at hs
def DT:List dS→List A→Prop
 |[],es=>es=[]
 |e::l,es=>∃k v a es',es=a::es'∧e.f0=123∧e.f3=[k,v]∧Tree k (.sc (oL k))∧Tree v a∧DT l es'
def keyOf (e:dS):Sc:=oL (e.f3.getD 0 zo)
theorem DT.facts:∀{l:List dS} {es:List A},DT l es→es.length=l.length∧A.vW ((l.map keyOf).map A.sc)∧A.vW es ∧
  A.Iz ((l.map keyOf).map A.sc)+A.Iz es≤10*dJ l+400*eu l∧A.qM ((l.map keyOf).map A.sc)+A.qM es≤2*dJ l+2000*eu l∧A.nS es≤oG l
 |[],es,h=>by cases (show es=[]from h);exact⟨rfl,trivial,trivial,bW,bW,bW⟩
 |e::l,es,h=>by
  obtain⟨k,v,a,es',rfl,he0,he,hk,hv,h'⟩:=h
  obtain⟨g1,g4,g5,g6,g7,g9⟩:=DT.facts h'
  have hko:keyOf e=oL k:=by unfold keyOf;rw[he];rfl
  have b1:jv e=e.f2.size+(jv k+jv v):=by rw[jF,he];simp[dJ]
  have c1:kZ e=1+(kZ k+kZ v):=by rw[iG,he];simp[eu]
  have d1:wO v+1≤wO e:=by rw[xE e,he,if_pos (.inr (.inr (.inl he0)))];simp only[oG];omega
  have h1:=hk.tl
  have h2:=hv.tl
  have h3:=hk.ec
  have h4:=hv.ec
  have h5:=hv.dep
  refine⟨by simp[g1],⟨by rw[hko];exact hk.eok,g4⟩,⟨hv.eok,g5⟩,?_,?_,?_⟩
  ·simp only[List.map_cons,hko,A.Iz,dJ,eu];omega
  ·simp only[List.map_cons,hko,A.qM,dJ,eu];omega
  ·simp only[A.nS,oG];omega
theorem DT.get:∀{l:List dS} {es:List A},DT l es→∀(i:Nat) (h:i<l.length),∃k v a,(l[i]).f3=[k,v]∧Tree k (.sc (oL k))∧Tree v a∧es[i]?=some a
 |e::l,es,h,0,_=>by
  obtain⟨k,v,a,es',rfl,he0,he,hk,hv,h'⟩:=h
  exact⟨k,v,a,he,hk,hv,rfl⟩
 |e::l,es,h,i+1,hi=>by
  obtain⟨k,v,a,es',rfl,he0,he,hk,hv,h'⟩:=h
  exact DT.get h' i (by simpa using hi)
theorem QT:∀(l:List dS),Tds l→∀e∈l,Td e
 |a::l,h,e,he=>by
  rcases List.mem_cons.1 he with rfl|he
  ·exact h.1
  ·exact QT l h.2 e he
theorem ag3:∀l:List dS,(∀(i:Nat) (h:i<l.length),∃k v a,(l[i]).f0=123∧(l[i]).f3=[k,v]∧Tree k (.sc (oL k))∧Tree v a)→∃es,DT l es
 |[],_=>⟨[],rfl⟩
 |e::l,h=>by
  obtain⟨k,v,a,h1,h2,h3,h4⟩:=h 0 (by simp)
  obtain⟨es,hes⟩:=ag3 l (fun i hi=>h (i+1) (by simpa using hi))
  exact⟨a::es,k,v,a,es,rfl,h1,h2,h3,h4,hes⟩
theorem A.FZ:∀(l:List A),A.vW l→∀e∈l,e.CW
 |a::l,h,e,he=>by
  rcases List.mem_cons.1 he with rfl|he
  ·exact h.1
  ·exact A.FZ l h.2 e he
theorem A.F5:∀l:List A,(∀e∈l,e.CW)→A.vW l
 |[],_=>trivial
 |a::l,h=>⟨h a (by simp),A.F5 l (fun e he=>h e (by simp[he]))⟩
theorem A.G_:∀x y:List A,A.Iz (x++y)=A.Iz x+A.Iz y
 |[],y=>by simp[A.Iz]
 |a::x,y=>by simp only[lF,A.Iz,A.G_ x y];omega
theorem A.aaF:∀(l:List A),∀e∈l,e.dep≤A.nS l
 |a::l,e,he=>by
  simp only[A.nS]
  rcases List.mem_cons.1 he with rfl|he
  ·omega
  ·have:=A.aaF l e he;omega
theorem A.KA (n:Nat):∀(l:List A),(∀e∈l,e.dep≤n)→A.nS l≤n
 |[],_=>jf _
 |a::l,h=>by
  have h1:=h a (by simp)
  have h2:=A.KA n l (fun e he=>h e (by simp[he]))
  simp only[A.nS];omega
theorem Zk (n:Int) (s:bG) (l:List dS) (es:List A) (q:UInt8) (t:T) (hs:s.data.toList=123::q::(t.sig++[125])) (hq:basic q) (hw0:t.Dz) (hf:(T.dict q t).fits 0 0 0) (hk:lD s.data.toList)
  (C_:∀(i:Nat) (h:i<l.length),∃k v,(l[i]).f3=[k,v]∧oI k.f0∧jh k=[q]∧jh v=t.sig∧Td k∧(0≤k.f1∧k.f1<18446744073709551616)∧k.f2.size≤65536)
  (h:DT l es) (hsl:(jh ⟨97,n,s,l⟩).length≤255) (hc:eu l≤400):Tree ⟨97,n,s,l⟩ (.dict q t ((dfold ((l.map keyOf).zip es)).1.map A.sc) (dfold ((l.map keyOf).zip es)).2):=by
 obtain⟨f1,f4,f5,f6,f7,f9⟩:=h.facts
 have hll:=fK l
 have hsig:jh ⟨97,n,s,l⟩=97::s.data.toList:=by rw[lT];rfl
 rw[hsig]at hsl
 have hkq:kJ q:=by
  have hk':lD (123::q::(t.sig++[125])):=hs▸hk
  exact hk' 0 (by simp) rfl
 have hw:t.wf:=T.Qh t hw0 (lD.sub (x:=[123,q]) (z:=[125]) (by simpa[hs]using hk))
 have hft:t.fits 0 0 0:=T.uF t 1 0 1 0 0 0 (by decide) (Int.le_refl _) (by decide) hf.2.2
 have hl2:(t.sig).length+4≤255:=by rw[hs]at hsl;simp at hsl;omega
 have hg:t.f_:=Ae t hw hft (by omega)
 have hwd:(T.dict q t).wf:=⟨hkq,hw⟩
 have hty:∀e∈es,e.dN=t∧e.wQ:=fun e he=>by
  obtain⟨i,hi,hie⟩:=List.getElem_of_mem he
  have hil:i<l.length:=by omega
  obtain⟨k,v,a,h1,h2,h3,h4⟩:=h.get i hil
  obtain⟨k2,v2,g1,-,-,g4,-⟩:=C_ i hil
  rw[h1]at g1
  obtain⟨rfl,rfl⟩:k=k2∧v=v2:=by simpa using g1
  have ea:a=e:=by rw[gQ hi]at h4;rw[←hie];exact(dU h4).symm
  subst ea
  have et:a.dN=t:=(T.BG a.dN t [] [] h3.Dz hw0 (by simp[h3.sig,g4])).1
  exact⟨et,h3.wQ (by rw[et];exact hft)⟩
 have hxs:∀x∈l.map keyOf,(x.isKey∧x.code=q)∧x.vK:=fun x hx=>by
  obtain⟨e,he,rfl⟩:=List.mem_map.1 hx
  obtain⟨i,hi,rfl⟩:=List.getElem_of_mem he
  obtain⟨k,v,g1,g2,g3,-,g5,g6,g7⟩:=C_ i hi
  have hko:keyOf l[i]=oL k:=by unfold keyOf;rw[g1];rfl
  obtain⟨e1,e2,e3,e4,e5⟩:=Bj k g2 g6 g7 g5
  have hcode:(oL k).code=q:=by
   have:=PD k g2
   rw[g3,←e1]at this
   simpa using this.symm
  rw[hko]
  refine⟨⟨?_,hcode⟩,e3⟩
  have hq2:kJ (oL k).code:=by rw[hcode];exact hkq
  revert hq2
  cases oL k<;>simp[Sc.code,kJ,Sc.isKey]
 have hds:(T.dict q t).sig.length≤1000000:=by simp only[T.sig,d_,dY,kW];omega
 have al0:uS (Qw ⟨97,n,s,l⟩) (.dict q t ((dfold ((l.map keyOf).zip es)).1.map A.sc) (dfold ((l.map keyOf).zip es)).2):=by
  rw[tY,show s=bs (123::q::(t.sig++[125])) by rw[←hs,o8]]
  refine fun A3 c3 w' hc hcc=>X7 q t hwd hf hds (l.map keyOf) es (jw l) (fun x hx=>(hxs x hx).1) (by rw[oN,List.length_map]) (by rw[oN,f1]) (by rw[oN];omega) (fun i hi=>?_) n A3 c3 w' hc hcc (fun i hi h1 h2=>?_)
  ·rw[(hty _ (nZ hi)).1]
   have:=T.D9 t
   omega
  ·have hil:i<l.length:=by rw[oN]at hi;exact hi
   obtain⟨k,v,a,g1,g2,g3,g4⟩:=h.get i hil
   have ea:es[i]=a:=by rw[gQ h2]at g4;exact dU g4
   have et:a.dN=t:=by rw[←ea];exact(hty _ (nZ h2)).1
   have hko:keyOf l[i]=oL k:=by unfold keyOf;rw[g1];rfl
   have hvi:((jw l)[i]).f3=[Qw k,Qw v]:=by rw[Hl l i hil,tY,g1];rfl
   refine⟨Qw k,Qw v,by rw[hvi];rfl,by rw[hvi];rfl,?_,?_⟩
   ·rw[List.getElem_map,hko];exact g2.door ⟨by decide,by decide,by decide⟩
   ·rw[ea];exact g3.door (by rw[et];exact hft)
 have hdf:=OD ((l.map keyOf).zip es)
 have z1:((l.map keyOf).zip es).map (fun q=>q.1)=l.map keyOf:=List.map_fst_zip (by rw[List.length_map,f1];exact bW)
 have z2:((l.map keyOf).zip es).map (fun q=>q.2)=es:=List.map_snd_zip (by rw[List.length_map,f1];exact bW)
 have s1:=hdf.sum A.Iz A.G_
 have s2:=hdf.sum A.qM A.vF
 rw[z1,z2]at s1 s2
 have hlz:((l.map keyOf).zip es).length=l.length:=by rw[List.length_zip,List.length_map,f1];exact Nat.min_self _
 have hle:=hdf.le
 rw[hlz]at hle
 have hmk:∀x∈(dfold ((l.map keyOf).zip es)).1,x∈l.map keyOf:=fun x hx=>by
  obtain⟨p,hp,rfl⟩:=hdf.ks x hx
  exact(List.of_mem_zip hp).1
 have hme:∀e∈(dfold ((l.map keyOf).zip es)).2,e∈es:=fun e he=>by
  obtain⟨p,hp,rfl⟩:=hdf.es e he
  exact(List.of_mem_zip hp).2
 have hlen:=hdf.len
 have hnd:=hdf.nd
 generalize dfold ((l.map keyOf).zip es)=F at *
 have aqt:A.nS (F.1.map A.sc)=0:=Nat.le_zero.1 (A.KA 0 _ (fun e he=>by
  obtain⟨x,-,rfl⟩:=List.mem_map.1 he
  exact bW))
 have asl:A.nS F.2≤A.nS es:=A.KA _ _ (fun e he=>A.aaF es e (hme e he))
 have hbl:jv ⟨97,n,s,l⟩=s.size+dJ l:=xA _ _ _ _
 refine⟨fun _=>?_,?_,hwd,⟨hq,hw0⟩,fun _=>⟨by rw[List.length_map,hlen],by rw[List.length_map];omega,⟨_,rfl,hnd,fun x hx=>(hxs x (hmk x hx)).1⟩,fun e he=>(hty e (hme e he)).1,hg,hkq,A.zY _ (fun e he=>?_),A.zY _ (fun e he=>(hty e (hme e he)).2)⟩,
  ⟨A.F5 _ (fun e he=>?_),A.F5 _ (fun e he=>A.FZ _ f5 e (hme e he))⟩,?_,?_,?_,.inr ⟨.inl rfl,fun y h=>by cases h⟩⟩
 ·exact al0
 ·rw[hsig,hs];rfl
 ·obtain⟨x,hx,rfl⟩:=List.mem_map.1 he
  exact(hxs x (hmk x hx)).2
 ·obtain⟨x,hx,rfl⟩:=List.mem_map.1 he
  exact A.FZ _ f4 _ (List.mem_map.2 ⟨x,hmk x hx,rfl⟩)
 ·rw[hbl,vg];simp only[A.tl];omega
 ·rw[hbl,vg];simp only[A.ec];omega
 ·rw[xE];simp only[A.dep,aqt];simp;omega
theorem uU:∀(l:List dS),oh l→∀e∈l,mY e
 |a::l,h,e,he=>by
  rcases List.mem_cons.1 he with rfl|he
  ·exact h.1
  ·exact uU l h.2 e he
theorem zH:∀(l:List dS),ZE l→∀e∈l,Rn e
 |a::l,h,e,he=>by
  rcases List.mem_cons.1 he with rfl|he
  ·exact h.1
  ·exact zH l h.2 e he
theorem Ky (l:List dS) (e:dS) (h:e∈l):kZ e≤eu l:=by
 obtain⟨i,hi,rfl⟩:=List.getElem_of_mem h
 exact iT l i hi
theorem Ey (l:List dS) (e:dS) (h:e∈l):jv e≤dJ l:=by
 obtain⟨i,hi,rfl⟩:=List.getElem_of_mem h
 exact lH l i hi
theorem Xf:∀(l:List dS) (e:dS),e∈l→(jh e).length≤(iY l).length
 |a::l,e,h=>by
  simp only[iY,dY]
  rcases List.mem_cons.1 h with rfl|h
  ·omega
  ·have:=Xf l e h;omega
theorem Rn.own {x:dS} (h:Rn x):0≤x.f1∧x.f1<18446744073709551616:=by cases x;exact h.1
theorem Rn.kids {x:dS} (h:Rn x):ZE x.f3:=by cases x;exact h.2
theorem mY.kids {x:dS} (h:mY x):oh x.f3:=by cases x;exact h.2
theorem agt (n:Nat):∀x:dS,kZ x≤n→Td x→mY x→Rn x→x.f0≠123→(jh x).length≤255→kZ x≤400→jv x≤65536→∃a,Tree x a:=by
 induction n with
 |zero=>intro x h;rw[iG]at h;omega
 |succ n ih =>
 intro x hn ht hk hr mP hs hc hb
 obtain⟨kd,num,s,l⟩:=x
 have hr0:=hr
 obtain⟨hr1,hr2⟩:=hr
 obtain⟨hk1,hk2⟩:=hk
 have ht0:=ht
 obtain⟨t1,t2,t3,t4,t5,t6,t7,t8,t9,t10,t11⟩:=ht
 have hcn:kZ ⟨kd,num,s,l⟩=1+eu l:=by rw[vg]
 have hbl:jv ⟨kd,num,s,l⟩=s.size+dJ l:=xA _ _ _ _
 have kids:∀kid∈l,kid.f0≠123→(jh kid).length≤255→∃a,Tree kid a:=fun kid C_ hq hsk=>by
  have h1:=Ky l kid C_
  have h2:=Ey l kid C_
  exact ih kid (by omega) (QT l t11 kid C_) (uU l hk2 kid C_) (zH l hr2 kid C_) hq hsk (by omega) (by omega)
 by_cases h97:kd=97
 ·subst h97
  obtain⟨hel,hsig⟩:=t6 rfl
  have hsl:(s.data.toList).length≤254:=by
   rw[lT,if_pos rfl]at hs;simpa using hs
  rcases hel with ⟨t,w0,fit,e⟩|⟨q,t,hq,w0,fit,e⟩
  ·obtain⟨us,hus⟩:=BI l (fun i hi=>by
    have hm:=nZ hi
    have hse:=hsig _ hm
    refine kids _ hm (fun e0=>?_) (by rw[hse];omega)
    rw[lT,if_neg (by omega),if_neg (by omega),if_pos e0,e]at hse
    exact QV t w0 _ [] (by rw[List.append_nil];exact hse.symm))
   exact⟨_,Zl num s l us t e w0 fit (hk1 rfl) hsig hus hs (by omega)⟩
  ·have hne:t.sig≠[]:=by
    obtain⟨c,r,hcr,-⟩:=Hr t w0
    rw[hcr];simp
   have C_:∀(i:Nat) (h:i<l.length),∃k v,(l[i]).f0=123∧(l[i]).f3=[k,v]∧oI k.f0∧jh k=[q]∧jh v=t.sig∧v.f0≠123∧Td k∧Td v:=fun i hi=>by
    have hm:=nZ hi
    have hse:=hsig _ hm
    rw[e]at hse
    obtain⟨e0,k,v,r⟩:=aaW _ q t.sig hne (QT l t11 _ hm) hse
    exact⟨k,v,e0,r⟩
   have hrk:∀(i:Nat) (h:i<l.length) k v,(l[i]).f3=[k,v]→(Rn k∧Rn v)∧mY v∧(kZ v≤eu l∧jv v≤dJ l∧jv k≤dJ l):=fun i hi k v ekv=>by
    have hm:=nZ hi
    have r1:=(zH l hr2 _ hm).kids
    have r2:=(uU l hk2 _ hm).kids
    have r4:=Ky l _ hm
    have r5:=Ey l _ hm
    rw[ekv]at r1 r2
    rw[iG,ekv]at r4
    rw[jF,ekv]at r5
    simp only[eu,dJ]at r4 r5
    exact⟨⟨r1.1,r1.2.1⟩,r2.2.1,by omega,by omega,by omega⟩
   obtain⟨es,hes⟩:=ag3 l (fun i hi=>by
    obtain⟨k,v,e0,ekv,g1,g2,g3,g4,g5,g6⟩:=C_ i hi
    obtain⟨⟨r1,r2⟩,r3,r5,r6,r7⟩:=hrk i hi k v ekv
    have hks:k.f2.size≤jv k:=by rw[jF];omega
    have hts:t.sig.length≤255:=by rw[e]at hsl;simp at hsl;omega
    obtain⟨a,ha⟩:=ih v (by omega) g6 r3 r2 g4 (by rw[g3];exact hts) (by omega) (by omega)
    exact⟨k,v,a,e0,ekv,JI k g1 r1.own (by omega) g5,ha⟩)
   refine⟨_,Zk num s l es q t e hq w0 fit (hk1 rfl) (fun i hi=>?_) hes hs (by omega)⟩
   ·obtain⟨k,v,e0,ekv,g1,g2,g3,g4,g5,g6⟩:=C_ i hi
    obtain⟨⟨r1,r2⟩,r3,r5,r6,r7⟩:=hrk i hi k v ekv
    have hks:k.f2.size≤jv k:=by rw[jF];omega
    exact⟨k,v,ekv,g1,g2,g3,g5,r1.own,by omega⟩
 by_cases NU:kd=40
 ·subst NU
  obtain⟨hne,hq⟩:=t7 (.inl rfl)
  have hs0:=t2 (by decide) (by decide) (by decide) (by decide)
  subst hs0
  have hsl:(iY l).length≤253:=by
   rw[lT,if_neg (show ¬((40:Int)=97) by decide),if_pos rfl]at hs;simp at hs;omega
  obtain⟨us,hus⟩:=BI l (fun i hi=>by
   have hm:=nZ hi
   have:=Xf l _ hm
   exact kids _ hm (hq _ hm) (by omega))
  exact⟨_,adb num l us hne hus hs (by omega)⟩
 by_cases abu:kd=118
 ·subst abu
  obtain⟨hl,hq,hg⟩:=t9 rfl
  have hs0:=t2 (by decide) (by decide) (by decide) (by decide)
  subst hs0
  match l,hl,hq,hg,kids with
  |[y],_,hq,hg,kids =>
   obtain⟨a,ha⟩:=kids y (by simp) hq hg.1
   exact⟨_,ade num y a ha hg⟩
 have al6:oI kd:=by
  by_cases a1:kd=115
  ·simp[oI,a1]
  by_cases a2:kd=111
  ·simp[oI,a2]
  by_cases a3:kd=103
  ·simp[oI,a3]
  exact Fg _ (t10 a1 a2 a3 h97 NU mP abu).1
 exact⟨_,JI ⟨kd,num,s,l⟩ al6 hr1 (by show s.size≤_;omega) ht0⟩
end Go.Proofs.YtllcccekodcdmaaGreatDoor.Ms
namespace Go.Proofs.YtllcccekodcdmaaGreatDoor.Ms
open Go Go.RowKit Go.Proofs.ak.aT Go.Proofs.ak.cO Go.Proofs.YtllcccekodcdmaaGreatDoor.bK
theorem zK {w W:World} {A:Option Addr} {xs:List jB} (h:Kd.C wG w A xs.length xs) (hb:Below w.heap.size w W) (i:Nat) (hi:i<xs.length):∃ad A4 c4,A=some ad∧W.cell? (ad.add (i*5))=some (.int .u8 (xs[i]).f0)∧W.cell? ⟨(ad.add (i*5)).block,(ad.add (i*5)).off+1,none⟩=some (.int .u8 (xs[i]).f1.f0)∧W.cell? ⟨(ad.add (i*5)).block,(ad.add (i*5)).off+2,none⟩=some (.int .u64 (xs[i]).f1.f1)∧W.cell? ⟨(ad.add (i*5)).block,(ad.add (i*5)).off+3,none⟩=some (.string (xs[i]).f1.f2)∧W.cell? ⟨(ad.add (i*5)).block,(ad.add (i*5)).off+4,none⟩=some (.slice A4 (xs[i]).f1.f3.length c4)∧(xs[i]).f1.f3.length≤c4∧qx.C w A4 (xs[i]).f1.f3.length (xs[i]).f1.f3:=by
 have:=aam h (i:Int) (by omega) (by omega)
 have e:bC xs (i:Int)=xs[i]:=by simp[bC,wC,gQ hi]
 rw[e,show((i:Nat):Int).toNat=i from rfl]at this
 obtain⟨ad,A4,c4,e,h0,h1,h2,h3,h4,h5,h6⟩:=this
 have hh:∀p v,w.cell? p=some v→W.cell? p=some v:=fun p v h0=>(hb.cell (fA w _ h0)).trans h0
 exact⟨ad,A4,c4,e,hh _ _ h0,hh _ _ h1,hh _ _ h2,hh _ _ h3,hh _ _ h4,h5,h6⟩
def findF (c:Int):List jB→Option dS
 |[]=>none
 |x::l=>if x.f0=c then some x.f1 else findF c l
theorem OI (c:Int):∀(l:List jB) (i:Nat) (h:i<l.length),(∀j (h':j<l.length),j<i→(l[j]).f0≠c)→(l[i]).f0=c→findF c l=some (l[i]).f1
 |x::l,0,h,_,e=>by simp[findF,show x.f0=c from e]
 |x::l,i+1,h,hj,e=>by
  have h0:x.f0≠c:=hj 0 (by simp) (by omega)
  simp only[findF,if_neg h0]
  exact OI c l i (by simpa using h) (fun j h' hji=>hj (j+1) (by simpa using h') (by omega)) e
theorem Gf (c:Int):∀(l:List jB),(∀j (h':j<l.length),(l[j]).f0≠c)→findF c l=none
 |[],_=>rfl
 |x::l,hj=>by
  have h0:x.f0≠c:=hj 0 (by simp)
  simp only[findF,if_neg h0]
  exact Gf c l (fun j h'=>hj (j+1) (by simpa using h'))
def aks (fs:List jB) (c:Int) (w:World) (e:Ending) (w':World):Prop :=
 ((∃x A0 c0,findF c fs=some x∧e=.returned (.tuple #[.agg #[.int .u8 x.f0,.int .u64 x.f1,.string x.f2,.slice A0 x.f3.length c0],.bool true])∧x.f3.length≤c0∧Kd.C qx w A0 x.f3.length x.f3) ∨
  (findF c fs=none∧e=.returned (.tuple #[.agg #[.int .u8 0,.int .u64 0,.string ⟨#[]⟩,.slice none 0 0],.bool false])))∧Below w.heap.size w w'
theorem EG (t f s:Int) (fs:List jB) (A1 A2:Option Addr) (c1 n2 c2:Nat) (c:Int) (w:World) (h1:Kd.C wG w A1 fs.length fs) (hl:fs.length≤1000000) :
  Calls prog 13 #[.agg #[.int .u8 t,.int .u8 f,.int .u32 s,.slice A1 fs.length c1,.slice A2 n2 c2],.int .u8 c] w (aks fs c w):=by
 have HN:=ah (show ∀(W:World) (hb:Below w.heap.size w W) (i:Nat) (hi:i<fs.length),_ from fun W hb i hi=>zK h1 hb i hi)
 obtain⟨n1,hn1⟩:∃n1,fs.length=n1:=⟨_,rfl⟩
 have B_:=ah hn1
 rw[hn1]at hl ⊢
 clear h1 hn1
 go_enter func13,ntmps13
 go_wp2
 have kr:=aV (w.alloc (.cells #[.int .u8 t,.int .u8 f,.int .u32 s,.slice A1 n1 c1,.slice A2 n2 c2] 26)) (.cells #[.int .u8 0,.int .u64 0,.string ⟨#[]⟩,.slice none 0 0] 32) (w.heap.size+1) (by simp)
 have HB0:=ah (((jM w).alloc bW (.cells #[.int .u8 t,.int .u8 f,.int .u32 s,.slice A1 n1 c1,.slice A2 n2 c2] 26)).alloc (by simp) (.cells #[.int .u8 0,.int .u64 0,.string ⟨#[]⟩,.slice none 0 0] 32))
 have KR0:=ah kr
 clear kr
 go_loopw [11] (fun v11 wr=>∃(k:Nat),k≤n1∧v11=.int .i64 (k:Nat)∧aj (wr.heap[w.heap.size+1]?=some (.cells #[.int .u8 0,.int .u64 0,.string ⟨#[]⟩,.slice none 0 0] 32 (0,0))∧Below w.heap.size w wr∧∀j (h:j<fs.length),j<k→(fs[j]).f0≠c)) (fun v11 _=>n1-(intOf v11).toNat)
 case atStart=>exact⟨0,jf _,rfl,⟨KR0.o,HB0.o,fun j h hj=>by omega⟩⟩
 case round =>
  clear KR0 HB0
  obtain⟨k,hk,rfl,HR0⟩:=hrel
  have KR:=ah HR0.o.1
  have HB:=ah HR0.o.2.1
  have HJ:=ah HR0.o.2.2
  clear HR0
  by_cases hlt:k<n1
  ·have hd:decide ((k:Int)<(n1:Int))=true:=by simp;omega
   have hk9:k+1≤1000001:=by omega
   have hkv:k<fs.length:=by have:=B_.o;omega
   obtain⟨ad,A4,c4,hA,h0,h1,h2,h3,h4,h5,h6⟩:=HN.o wr HB.o k hkv
   subst hA
   have HX:=ah h6
   have hlr:=lt_of_block KR.o
   have HE:=ah (fun (e:(fs[k]).f0=c)=>OI c fs k hkv (fun j h hj=>HJ.o j h hj) e)
   have HS:=ah (fun (e:(fs[k]).f0≠c) j (h:j<fs.length) (hj:j<k+1)=>(by
    by_cases e2:j=k
    ·subst e2;exact e
    ·exact HJ.o j h (by omega):(fs[j]).f0≠c))
   generalize fs[k]=x at *
   clear h6
   by_cases he:x.f0=c
   ·have hq:(x.f0==c)=true:=by simp[he]
    have HF:=ah (HE.o he)
    have yM:=aQ KR.o (.cells #[.int .u8 x.f0,.int .u8 x.f1.f0,.int .u64 x.f1.f1,.string x.f1.f2,.slice A4 x.f1.f3.length c4] 38)
    have r0:=au yM 0 (v:=.int .u8 0) rfl
    have r1:=au yM 1 (v:=.int .u64 0) rfl
    have r2:=au yM 2 (v:=.string ⟨#[]⟩) rfl
    have r3:=au yM 3 (v:=.slice none 0 0) rfl
    have q0:=aI yM 0
    have q1:=aI yM 1
    have q2:=aI yM 2
    have q3:=aI yM 3
    have r4:=au KR.o 0 (v:=.int .u8 0) rfl
    have r5:=au KR.o 1 (v:=.int .u64 0) rfl
    have r6:=au KR.o 2 (v:=.string ⟨#[]⟩) rfl
    have r7:=au KR.o 3 (v:=.slice none 0 0) rfl
    have q4:=aI KR.o 0
    have q5:=aI KR.o 1
    have q6:=aI KR.o 2
    have q7:=aI KR.o 3
    clear HE HS he yM
    go_wp2
    have HB2:=ah ((((((HB.o.setCell (p:=⟨w.heap.size+1,0,none⟩) (by simp) (.int .u8 x.f1.f0)).setCell (p:=⟨w.heap.size+1,1,none⟩) (by simp) (.int .u64 x.f1.f1)).setCell (p:=⟨w.heap.size+1,2,none⟩) (by simp) (.string x.f1.f2)).setCell (p:=⟨w.heap.size+1,3,none⟩) (by simp) (.slice A4 x.f1.f3.length c4)).alloc (by have:=HB.o.size;simpa using this) (.cells #[.int .u8 x.f0,.int .u8 x.f1.f0,.int .u64 x.f1.f1,.string x.f1.f2,.slice A4 x.f1.f3.length c4] 38)))
    have kq:=aQ (Joins.block_setCell (Joins.block_setCell (Joins.block_setCell (Joins.block_setCell KR.o (i:=0) (.int .u8 x.f1.f0)) (i:=1) (.int .u64 x.f1.f1)) (i:=2) (.string x.f1.f2)) (i:=3) (.slice A4 x.f1.f3.length c4)) (.cells #[.int .u8 x.f0,.int .u8 x.f1.f0,.int .u64 x.f1.f1,.string x.f1.f2,.slice A4 x.f1.f3.length c4] 38)
    generalize (((((wr.setCell ⟨w.heap.size+1,0,none⟩ (.int .u8 x.f1.f0)).setCell ⟨w.heap.size+1,1,none⟩ (.int .u64 x.f1.f1)).setCell ⟨w.heap.size+1,2,none⟩ (.string x.f1.f2)).setCell ⟨w.heap.size+1,3,none⟩ (.slice A4 x.f1.f3.length c4)).alloc (.cells #[.int .u8 x.f0,.int .u8 x.f1.f0,.int .u64 x.f1.f1,.string x.f1.f2,.slice A4 x.f1.f3.length c4] 38))=W at kq HB2 ⊢
    have z0:=au kq 0 (v:=.int .u8 x.f1.f0) rfl
    have z1:=au kq 1 (v:=.int .u64 x.f1.f1) rfl
    have z2:=au kq 2 (v:=.string x.f1.f2) rfl
    have z3:=au kq 3 (v:=.slice A4 x.f1.f3.length c4) rfl
    refine iW (v:=.tuple #[.agg #[.int .u8 x.f1.f0,.int .u64 x.f1.f1,.string x.f1.f2,.slice A4 x.f1.f3.length c4],.bool true]) (by simp[results,results13,go_sem,z0,z1,z2,z3]) rfl ⟨.inl ⟨_,_,_,HF.o,rfl,h5,HX.o⟩,HB2.o⟩
   ·have hq:(x.f0==c)=false:=by simp[he]
    have HS2:=ah (HS.o he)
    clear HE HS he
    go_wp2
    go_roundw
    case rel=>exact⟨k+1,hlt,by go_num,⟨aQ KR.o _,HB.o.alloc HB.o.size _,HS2.o⟩⟩
    case measure=>simp[intOf];omega
  ·have hd:decide ((k:Int)<(n1:Int))=false:=by simp;omega
   have hkn:k=fs.length:=by have:=B_.o;omega
   have HF:=ah (Gf c fs (fun j h=>HJ.o j h (by omega)))
   clear hkn
   have r0:=au KR.o 0 (v:=.int .u8 0) rfl
   have r1:=au KR.o 1 (v:=.int .u64 0) rfl
   have r2:=au KR.o 2 (v:=.string ⟨#[]⟩) rfl
   have r3:=au KR.o 3 (v:=.slice none 0 0) rfl
   have q0:=aI KR.o 0
   have q1:=aI KR.o 1
   have q2:=aI KR.o 2
   have q3:=aI KR.o 3
   go_wp2
   have HB2:=ah (((((HB.o.setCell (p:=⟨w.heap.size+1,0,none⟩) (by simp) (.int .u8 0)).setCell (p:=⟨w.heap.size+1,1,none⟩) (by simp) (.int .u64 0)).setCell (p:=⟨w.heap.size+1,2,none⟩) (by simp) (.string ⟨#[]⟩)).setCell (p:=⟨w.heap.size+1,3,none⟩) (by simp) (.slice none 0 0)))
   have kq:=Joins.block_setCell (Joins.block_setCell (Joins.block_setCell (Joins.block_setCell KR.o (i:=0) (.int .u8 0)) (i:=1) (.int .u64 0)) (i:=2) (.string ⟨#[]⟩)) (i:=3) (.slice none 0 0)
   generalize ((((wr.setCell ⟨w.heap.size+1,0,none⟩ (.int .u8 0)).setCell ⟨w.heap.size+1,1,none⟩ (.int .u64 0)).setCell ⟨w.heap.size+1,2,none⟩ (.string ⟨#[]⟩)).setCell ⟨w.heap.size+1,3,none⟩ (.slice none 0 0))=W at kq HB2 ⊢
   have z0:=au kq 0 (v:=.int .u8 0) rfl
   have z1:=au kq 1 (v:=.int .u64 0) rfl
   have z2:=au kq 2 (v:=.string ⟨#[]⟩) rfl
   have z3:=au kq 3 (v:=.slice none 0 0) rfl
   refine iW (v:=.tuple #[.agg #[.int .u8 0,.int .u64 0,.string ⟨#[]⟩,.slice none 0 0],.bool false]) (by simp[results,results13,go_sem,z0,z1,z2,z3]) rfl ⟨.inr ⟨HF.o,rfl⟩,HB2.o⟩
end Go.Proofs.YtllcccekodcdmaaGreatDoor.Ms
