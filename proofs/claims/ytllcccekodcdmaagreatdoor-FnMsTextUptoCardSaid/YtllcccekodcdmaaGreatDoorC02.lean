import Derived.Laws.StructEq
import Derived.Test.YtllcccekodcdmaaGreatDoorC01
set_option linter.unusedVariables false
set_option linter.unusedSimpArgs false
set_option maxRecDepth 100000
set_option maxHeartbeats 32000000
open Go.Proofs.Tryz
namespace Go.Proofs.YtllcccekodcdmaaGreatDoor.bK
open Go.RowKit Go.Proofs.ak.aT Go.Proofs.ak.cO Go.Proofs.ak.lQ
section
attribute [local go_sem] mW qc
theorem abS:(prog.info? 9).map (fun i=>(i.zero,i.size,i.bytes))=some (some (.string ⟨#[]⟩),1,16):=by kernel_rfl
theorem SS:(prog.info? 38).map (fun i=>(i.zero,i.size,i.bytes))=some (some (.agg #[(.int .u8 0),(.int .u8 0),(.int .u64 0),(.string ⟨#[]⟩),(.slice none 0 0)]),5,64):=by kernel_rfl
theorem abR:(prog.info? 53).map (fun i=>(i.zero,i.size,i.bytes))=some (some (.agg #[(.int .u8 0),(.int .u64 0),(.string ⟨#[]⟩),(.slice none 0 0)]),4,56):=by kernel_rfl
theorem aiY:(prog.info? 78).map (fun i=>(i.zero,i.size,i.bytes))=some (some (.agg #[(.int .u8 0),(.int .u8 0),(.int .u64 0),(.string ⟨#[]⟩),(.slice none 0 0)]),5,64):=by kernel_rfl
structure dS where
 f0:Int
 f1:Int
 f2:bG
 f3:(List dS)
def zo:dS:=⟨(0:Int),(0:Int),(⟨#[]⟩:bG),([]:List dS)⟩
def F32 (d:Kd dS):Kd dS:=Kd.iso (Kd.pair (Kd.int .u8) (Kd.pair (Kd.int .u64) (Kd.pair Kd.string (Kd.slice 32 d)))) (fun x:dS=>(x.f0,x.f1,x.f2,x.f3))
theorem acs:Kd.uV F32:=Kd.PL _ (Kd.qO (Kd.pR _) (Kd.qO (Kd.pR _) (Kd.qO (Kd.pR _) (Kd.Gz 32 Kd.WZ))))
theorem amy:Kd.Sub F32 [32]:=Kd.Xj _ (Kd.uO (Kd.sub_const _ (by decide)) (Kd.uO (Kd.sub_const _ (by decide)) (Kd.uO (Kd.sub_const _ (by decide)) (Kd.JF 32 (by decide) Kd.ac3))))
theorem amB:∀n,(Kd.upto F32 4 [32] n).sz=4:=Kd.Xn (fun _=>rfl)
def qx:Kd dS:=Kd.fix F32 4 [32] amB (Kd.Uh amy)
theorem Pg:Kd.Heap qx:=Kd.abE (fun _ h_=>Kd.OU _ (Kd.xM (Kd.Gn .u8) (Kd.xM (Kd.Gn .u64) (Kd.xM Kd.OV (Kd.Sr 32 h_)))))
theorem Gv {w:World} {x:dS} {cs:List Value} (h:qx.K w x cs):∃A3 c3,cs=[.int .u8 x.f0,.int .u64 x.f1,.string x.f2,.slice A3 x.f3.length c3]∧x.f3.length≤c3∧qx.C w A3 x.f3.length x.f3:=by
 obtain⟨n,h⟩:=h
 cases n with
 |zero=>exact h.elim
 |succ n =>
  obtain⟨_,_,rfl,rfl,⟨_,_,rfl,rfl,⟨_,_,rfl,rfl,⟨A3,c3,rfl,l3,g3⟩⟩⟩⟩:=h
  exact⟨A3,c3,rfl,l3,Kd.ag6 g3⟩
theorem Tf (w:World) (x:dS) {A3:Option Addr} {c3:Nat} (l3:x.f3.length≤c3) (g3:qx.C w A3 x.f3.length x.f3):qx.K w x [.int .u8 x.f0,.int .u64 x.f1,.string x.f2,.slice A3 x.f3.length c3]:=by
 obtain⟨n3,q3⟩:=Kd.RY acs g3
 have r3:=Kd.Zq acs amB (show n3≤n3 by omega) q3
 exact⟨n3+1,⟨[.int .u8 x.f0],[.int .u64 x.f1,.string x.f2,.slice A3 x.f3.length c3],rfl,rfl,⟨[.int .u64 x.f1],[.string x.f2,.slice A3 x.f3.length c3],rfl,rfl,⟨[.string x.f2],[.slice A3 x.f3.length c3],rfl,rfl,⟨A3,c3,rfl,l3,r3⟩⟩⟩⟩⟩
theorem afH (W:World) (ok:Nat→Prop) (x:dS) {A3:Option Addr} {c3:Nat} (l3:x.f3.length≤c3) (g3:Kd.F qx W ok A3 x.f3.length x.f3):Kd.FK qx W ok x [.int .u8 x.f0,.int .u64 x.f1,.string x.f2,.slice A3 x.f3.length c3]:=fun W2 hW=>Tf W2 x l3 (g3 W2 hW)
def aA (xs:List dS) (i:Int):dS:=xs.getD i.toNat zo
theorem mD {w:World} {A:Option Addr} {n:Nat} {xs:List dS} (h:Kd.C qx w A n xs) (i:Int) (h0:0≤i) (h1:i<n):∃ad A3 c3,A=some ad∧w.cell? (ad.add (i.toNat*4))=some (.int .u8 (aA xs i).f0)∧w.cell? ⟨(ad.add (i.toNat*4)).block,(ad.add (i.toNat*4)).off+1,none⟩=some (.int .u64 (aA xs i).f1)∧w.cell? ⟨(ad.add (i.toNat*4)).block,(ad.add (i.toNat*4)).off+2,none⟩=some (.string (aA xs i).f2)∧w.cell? ⟨(ad.add (i.toNat*4)).block,(ad.add (i.toNat*4)).off+3,none⟩=some (.slice A3 (aA xs i).f3.length c3)∧(aA xs i).f3.length≤c3∧qx.C w A3 (aA xs i).f3.length (aA xs i).f3:=by
 obtain⟨ad,c,e,_,hK,hc0⟩:=Kd.DJ h zo i h0 h1
 have hc:∀j u,c[j]?=some u→w.cell? (ad.add (i.toNat*4+j))=some u:=hc0
 obtain⟨A3,c3,rfl,l3,g3⟩:=Gv hK
 exact⟨ad,A3,c3,e,hc 0 _ rfl,by rw[←iE _ _ 1 (by omega)];exact hc 1 _ rfl,by rw[←iE _ _ 2 (by omega)];exact hc 2 _ rfl,by rw[←iE _ _ 3 (by omega)];exact hc 3 _ rfl,l3,g3⟩
structure jB where
 f0:Int
 f1:dS
def z38:jB:=⟨(0:Int),zo⟩
def wG:Kd jB:=Kd.iso (Kd.pair (Kd.int .u8) qx) (fun x:jB=>(x.f0,x.f1))
theorem Ph:Kd.Heap wG:=Kd.OU _ (Kd.xM (Kd.Gn .u8) Pg)
theorem Ba {w:World} {x:jB} {cs:List Value} (h:wG.K w x cs):∃A4 c4,cs=[.int .u8 x.f0,.int .u8 x.f1.f0,.int .u64 x.f1.f1,.string x.f1.f2,.slice A4 x.f1.f3.length c4]∧x.f1.f3.length≤c4∧qx.C w A4 x.f1.f3.length x.f1.f3:=by
 obtain⟨_,_,rfl,rfl,s1⟩:=h
 obtain⟨A4,c4,rfl,l4,g4⟩:=Gv s1
 exact⟨A4,c4,rfl,l4,g4⟩
theorem abX (w:World) (x:jB) {A4:Option Addr} {c4:Nat} (l4:x.f1.f3.length≤c4) (g4:qx.C w A4 x.f1.f3.length x.f1.f3):wG.K w x [.int .u8 x.f0,.int .u8 x.f1.f0,.int .u64 x.f1.f1,.string x.f1.f2,.slice A4 x.f1.f3.length c4]:=⟨[.int .u8 x.f0],[.int .u8 x.f1.f0,.int .u64 x.f1.f1,.string x.f1.f2,.slice A4 x.f1.f3.length c4],rfl,rfl,(Tf w x.f1 l4 g4)⟩
theorem Yy {W:World} {ok:Nat→Prop} {x:jB} {cs:List Value} (h:Kd.FK wG W ok x cs):∃A4 c4,cs=[.int .u8 x.f0,.int .u8 x.f1.f0,.int .u64 x.f1.f1,.string x.f1.f2,.slice A4 x.f1.f3.length c4]∧x.f1.f3.length≤c4∧Kd.F qx W ok A4 x.f1.f3.length x.f1.f3:=by
 obtain⟨A4,c4,rfl,l4,_⟩:=Ba (Kd.ES h)
 exact⟨A4,c4,rfl,l4,(fun W' hW=>by obtain⟨A4_,c4_,he,l4_,g4_⟩:=Ba (h W' hW);injection (dU (show some (Value.slice A4 x.f1.f3.length c4)=some (Value.slice A4_ x.f1.f3.length c4_)from congrArg (fun l=>l[4]?) he))with ha_ _ _;rw[ha_];exact g4_)⟩
theorem afI (W:World) (ok:Nat→Prop) (x:jB) {A4:Option Addr} {c4:Nat} (l4:x.f1.f3.length≤c4) (g4:Kd.F qx W ok A4 x.f1.f3.length x.f1.f3):Kd.FK wG W ok x [.int .u8 x.f0,.int .u8 x.f1.f0,.int .u64 x.f1.f1,.string x.f1.f2,.slice A4 x.f1.f3.length c4]:=fun W2 hW=>abX W2 x l4 (g4 W2 hW)
def bC (xs:List jB) (i:Int):jB:=xs.getD i.toNat z38
theorem aam {w:World} {A:Option Addr} {n:Nat} {xs:List jB} (h:Kd.C wG w A n xs) (i:Int) (h0:0≤i) (h1:i<n):∃ad A4 c4,A=some ad∧w.cell? (ad.add (i.toNat*5))=some (.int .u8 (bC xs i).f0)∧w.cell? ⟨(ad.add (i.toNat*5)).block,(ad.add (i.toNat*5)).off+1,none⟩=some (.int .u8 (bC xs i).f1.f0)∧w.cell? ⟨(ad.add (i.toNat*5)).block,(ad.add (i.toNat*5)).off+2,none⟩=some (.int .u64 (bC xs i).f1.f1)∧w.cell? ⟨(ad.add (i.toNat*5)).block,(ad.add (i.toNat*5)).off+3,none⟩=some (.string (bC xs i).f1.f2)∧w.cell? ⟨(ad.add (i.toNat*5)).block,(ad.add (i.toNat*5)).off+4,none⟩=some (.slice A4 (bC xs i).f1.f3.length c4)∧(bC xs i).f1.f3.length≤c4∧qx.C w A4 (bC xs i).f1.f3.length (bC xs i).f1.f3:=by
 obtain⟨ad,c,e,_,hK,hc0⟩:=Kd.DJ h z38 i h0 h1
 have hc:∀j u,c[j]?=some u→w.cell? (ad.add (i.toNat*5+j))=some u:=hc0
 obtain⟨A4,c4,rfl,l4,g4⟩:=Ba hK
 exact⟨ad,A4,c4,e,hc 0 _ rfl,by rw[←iE _ _ 1 (by omega)];exact hc 1 _ rfl,by rw[←iE _ _ 2 (by omega)];exact hc 2 _ rfl,by rw[←iE _ _ 3 (by omega)];exact hc 3 _ rfl,by rw[←iE _ _ 4 (by omega)];exact hc 4 _ rfl,l4,g4⟩
structure l9 where
 f0:Int
 f1:Int
 f2:bG
 f3:(List l9)
def z53:l9:=⟨(0:Int),(0:Int),(⟨#[]⟩:bG),([]:List l9)⟩
def F53 (d:Kd l9):Kd l9:=Kd.iso (Kd.pair (Kd.int .u8) (Kd.pair (Kd.int .u64) (Kd.pair Kd.string (Kd.slice 53 d)))) (fun x:l9=>(x.f0,x.f1,x.f2,x.f3))
theorem acu:Kd.uV F53:=Kd.PL _ (Kd.qO (Kd.pR _) (Kd.qO (Kd.pR _) (Kd.qO (Kd.pR _) (Kd.Gz 53 Kd.WZ))))
theorem amA:Kd.Sub F53 [53]:=Kd.Xj _ (Kd.uO (Kd.sub_const _ (by decide)) (Kd.uO (Kd.sub_const _ (by decide)) (Kd.uO (Kd.sub_const _ (by decide)) (Kd.JF 53 (by decide) Kd.ac3))))
theorem amC:∀n,(Kd.upto F53 4 [53] n).sz=4:=Kd.Xn (fun _=>rfl)
def ug:Kd l9:=Kd.fix F53 4 [53] amC (Kd.Uh amA)
theorem Pj {w:World} {x:l9} {cs:List Value} (h:ug.K w x cs):∃A3 c3,cs=[.int .u8 x.f0,.int .u64 x.f1,.string x.f2,.slice A3 x.f3.length c3]∧x.f3.length≤c3∧ug.C w A3 x.f3.length x.f3:=by
 obtain⟨n,h⟩:=h
 cases n with
 |zero=>exact h.elim
 |succ n =>
  obtain⟨_,_,rfl,rfl,⟨_,_,rfl,rfl,⟨_,_,rfl,rfl,⟨A3,c3,rfl,l3,g3⟩⟩⟩⟩:=h
  exact⟨A3,c3,rfl,l3,Kd.ag6 g3⟩
theorem Me (w:World) (base:Nat) (ok:Nat→Prop) (x:l9) {v3:Value} (g3:ug.R 53 w base ok v3 x.f3):ug.M w base ok x [.int .u8 x.f0,.int .u64 x.f1,.string x.f2,v3]:=by
 obtain⟨n3,q3⟩:=Kd.RZ acu g3
 have r3:=Kd.Zr acu amC (show n3≤n3 by omega) q3
 exact⟨n3+1,⟨[.int .u8 x.f0],[.int .u64 x.f1,.string x.f2,v3],rfl,rfl,⟨[.int .u64 x.f1],[.string x.f2,v3],rfl,rfl,⟨[.string x.f2],[v3],rfl,rfl,⟨v3,rfl,r3⟩⟩⟩⟩⟩
def vJ (xs:List l9) (i:Int):l9:=xs.getD i.toNat z53
theorem ahK {w:World} {A:Option Addr} {n:Nat} {xs:List l9} (h:Kd.C ug w A n xs) (i:Int) (h0:0≤i) (h1:i<n):∃ad A3 c3,A=some ad∧w.cell? (ad.add (i.toNat*4))=some (.int .u8 (vJ xs i).f0)∧w.cell? ⟨(ad.add (i.toNat*4)).block,(ad.add (i.toNat*4)).off+1,none⟩=some (.int .u64 (vJ xs i).f1)∧w.cell? ⟨(ad.add (i.toNat*4)).block,(ad.add (i.toNat*4)).off+2,none⟩=some (.string (vJ xs i).f2)∧w.cell? ⟨(ad.add (i.toNat*4)).block,(ad.add (i.toNat*4)).off+3,none⟩=some (.slice A3 (vJ xs i).f3.length c3)∧(vJ xs i).f3.length≤c3∧ug.C w A3 (vJ xs i).f3.length (vJ xs i).f3:=by
 obtain⟨ad,c,e,_,hK,hc0⟩:=Kd.DJ h z53 i h0 h1
 have hc:∀j u,c[j]?=some u→w.cell? (ad.add (i.toNat*4+j))=some u:=hc0
 obtain⟨A3,c3,rfl,l3,g3⟩:=Pj hK
 exact⟨ad,A3,c3,e,hc 0 _ rfl,by rw[←iE _ _ 1 (by omega)];exact hc 1 _ rfl,by rw[←iE _ _ 2 (by omega)];exact hc 2 _ rfl,by rw[←iE _ _ 3 (by omega)];exact hc 3 _ rfl,l3,g3⟩
structure BP where
 f0:Int
 f1:l9
def z78:BP:=⟨(0:Int),z53⟩
def k78:Kd BP:=Kd.iso (Kd.pair (Kd.int .u8) ug) (fun x:BP=>(x.f0,x.f1))
theorem abY {w:World} {x:BP} {cs:List Value} (h:k78.K w x cs):∃A4 c4,cs=[.int .u8 x.f0,.int .u8 x.f1.f0,.int .u64 x.f1.f1,.string x.f1.f2,.slice A4 x.f1.f3.length c4]∧x.f1.f3.length≤c4∧ug.C w A4 x.f1.f3.length x.f1.f3:=by
 obtain⟨_,_,rfl,rfl,s1⟩:=h
 obtain⟨A4,c4,rfl,l4,g4⟩:=Pj s1
 exact⟨A4,c4,rfl,l4,g4⟩
theorem afJ (w:World) (base:Nat) (ok:Nat→Prop) (x:BP) {v4:Value} (g4:ug.R 53 w base ok v4 x.f1.f3):k78.M w base ok x [.int .u8 x.f0,.int .u8 x.f1.f0,.int .u64 x.f1.f1,.string x.f1.f2,v4]:=⟨[.int .u8 x.f0],[.int .u8 x.f1.f0,.int .u64 x.f1.f1,.string x.f1.f2,v4],rfl,rfl,(Me w base ok x.f1 g4)⟩
def tK (xs:List BP) (i:Int):BP:=xs.getD i.toNat z78
theorem ahL {w:World} {A:Option Addr} {n:Nat} {xs:List BP} (h:Kd.C k78 w A n xs) (i:Int) (h0:0≤i) (h1:i<n):∃ad A4 c4,A=some ad∧w.cell? (ad.add (i.toNat*5))=some (.int .u8 (tK xs i).f0)∧w.cell? ⟨(ad.add (i.toNat*5)).block,(ad.add (i.toNat*5)).off+1,none⟩=some (.int .u8 (tK xs i).f1.f0)∧w.cell? ⟨(ad.add (i.toNat*5)).block,(ad.add (i.toNat*5)).off+2,none⟩=some (.int .u64 (tK xs i).f1.f1)∧w.cell? ⟨(ad.add (i.toNat*5)).block,(ad.add (i.toNat*5)).off+3,none⟩=some (.string (tK xs i).f1.f2)∧w.cell? ⟨(ad.add (i.toNat*5)).block,(ad.add (i.toNat*5)).off+4,none⟩=some (.slice A4 (tK xs i).f1.f3.length c4)∧(tK xs i).f1.f3.length≤c4∧ug.C w A4 (tK xs i).f1.f3.length (tK xs i).f1.f3:=by
 obtain⟨ad,c,e,_,hK,hc0⟩:=Kd.DJ h z78 i h0 h1
 have hc:∀j u,c[j]?=some u→w.cell? (ad.add (i.toNat*5+j))=some u:=hc0
 obtain⟨A4,c4,rfl,l4,g4⟩:=abY hK
 exact⟨ad,A4,c4,e,hc 0 _ rfl,by rw[←iE _ _ 1 (by omega)];exact hc 1 _ rfl,by rw[←iE _ _ 2 (by omega)];exact hc 2 _ rfl,by rw[←iE _ _ 3 (by omega)];exact hc 3 _ rfl,by rw[←iE _ _ 4 (by omega)];exact hc 4 _ rfl,l4,g4⟩
end
end Go.Proofs.YtllcccekodcdmaaGreatDoor.bK
namespace Go.Proofs.YtllcccekodcdmaaGreatDoor.Xs
open Go Go.RowKit Go.Proofs.ak.aT Go.Proofs.ak.cO Go.Proofs.ak.lQ
section
theorem di {α:Type} {p:Prop} [Decidable p] {x y z:α} (h:(if p then x else y)=z):(decide p=true∧x=z)∨(decide p=false∧y=z):=by
 by_cases c:p
 ·exact .inl ⟨decide_eq_true c,by rwa [if_pos c]at h⟩
 ·exact .inr ⟨decide_eq_false c,by rwa [if_neg c]at h⟩
theorem de {α β:Type} [BEq β] [LawfulBEq β] {a b:β} [Decidable (a=b)] {x y z:α} (h:(if a=b then x else y)=z):((a==b)=true∧(a != b)=false∧x=z)∨((a==b)=false∧(a != b)=true∧¬a=b∧y=z):=by
 by_cases c:a=b
 ·exact .inl ⟨beq_iff_eq.mpr c,bne_eq_false_iff_eq.mpr c,by rwa [if_pos c]at h⟩
 ·exact .inr ⟨kS.mpr c,bne_iff_ne.mpr c,c,by rwa [if_neg c]at h⟩
theorem rf {P:Prop} (h:P:=by first|rfl|(simp;done)|(simp[*];done)):P:=h
theorem re {P:Prop} (h:P:=by first|rfl|(simp[X_,Ya]<;>rfl)|(simp[*,X_,Ya]<;>rfl)):P:=h
theorem dr {P:Prop} (h:P:=by repeat (first|exact iD.refl _|apply iD.step)):P:=h
theorem kn {P:Prop} (h:P:=by first|exact Kd.aad _ _ _ _ _|exact Kd.Z5 _ _ _ _ _|exact Kd.arQ _ _ _ _ _|exact Kd.arO _ _ _ _ _|exact Kd.arP _ _ _ _ _):P:=h
theorem bk {P:Prop} (h:P:=by(with_reducible repeat (first|refine I9 ?_ _|refine jk ?_|refine fH ?_ _));exact aj.o (by assumption)):P:=h
theorem ab {P:Prop} (h:P:=by repeat (first|(with_reducible first|exact aj.o (by assumption)|apply nJ|apply rG|apply nK|refine XT ?_ (aj.o (by assumption)))|exact aj.o (by assumption))):P:=h
theorem bf {w:World} {g b i:Nat} {t:TypeId} {cs:Array Value} {u:Value} (hp:aj (g≠b)) (h:w.heap[g]?=some (.cells cs t (0,0))):(w.setCell ⟨b,i,none⟩ u).heap[g]?=some (.cells cs t (0,0)):=aeh h hp.o u
theorem bz {P:Prop} (h:P:=by((with_reducible repeat (first|refine I9 ?_ _|refine jk ?_|refine fH ?_ _|apply qH|refine bf (by assumption) ?_));exact aj.o (by first|(with_reducible assumption)|assumption);all_goals rfl)):P:=h
theorem mt {P:Prop} (h:P:=by((try simp only[List.map_toArray,List.map_cons,List.map_nil]);first|done|rfl|(simp only[List.length_drop,List.length_take];rfl))):P:=h
theorem ww {P:Prop} (h:P:=by first|exact⟨rfl,_,World.drewN_drewN _ _ _⟩|exact⟨rfl,_,Eq.trans (World.drewN_drewN _ _ _) (congrArg (World.drewN _) (Nat.add_assoc _ _ _))⟩):P:=h
theorem kr {P X:Prop} (h:X) (e:X→P:=by(intro h;(with_reducible repeat (first|apply Kd.kL|apply Kd.jU|apply Kd.kM));exact h)):P:=e h
theorem od {p:Prop} [Decidable p] (h:decide p=true:=by first|(with_reducible assumption)|assumption):p:=of_decide_eq_true h
theorem up {w w':World} {a:Addr} {v:Value} (h:Below w.heap.size w w') (c:w.cell? a=some v):w'.cell? a=some v:=(h.cell (fA w _ c)).trans c
theorem bx2 {w:World} {g:Nat} {a b:Value} {t:TypeId} (h:w.heap[g]?=some (.cells #[a,b] t (0,0))):w.cell? ⟨g,0,none⟩=some a∧w.cell? ⟨g,1,none⟩=some b∧w.frozen? ⟨g,0,none⟩=false∧w.frozen? ⟨g,1,none⟩=false :=
 ⟨aC h 0,aC h 1,aK h 0,aK h 1⟩
theorem bx3 {w:World} {g:Nat} {a b c:Value} {t:TypeId} (h:w.heap[g]?=some (.cells #[a,b,c] t (0,0))):w.cell? ⟨g,0,none⟩=some a∧w.cell? ⟨g,1,none⟩=some b∧w.cell? ⟨g,2,none⟩=some c∧w.frozen? ⟨g,0,none⟩=false∧w.frozen? ⟨g,1,none⟩=false∧w.frozen? ⟨g,2,none⟩=false :=
 ⟨aC h 0,aC h 1,aC h 2,aK h 0,aK h 1,aK h 2⟩
theorem CU {w:World} {g:Nat} {a b c d:Value} {t:TypeId} (h:w.heap[g]?=some (.cells #[a,b,c,d] t (0,0))):w.cell? ⟨g,0,none⟩=some a∧w.cell? ⟨g,1,none⟩=some b∧w.cell? ⟨g,2,none⟩=some c∧w.cell? ⟨g,3,none⟩=some d∧w.frozen? ⟨g,0,none⟩=false∧w.frozen? ⟨g,1,none⟩=false∧w.frozen? ⟨g,2,none⟩=false∧w.frozen? ⟨g,3,none⟩=false :=
 ⟨aC h 0,aC h 1,aC h 2,aC h 3,aK h 0,aK h 1,aK h 2,aK h 3⟩
theorem bx5 {w:World} {g:Nat} {a b c d e:Value} {t:TypeId} (h:w.heap[g]?=some (.cells #[a,b,c,d,e] t (0,0))):w.cell? ⟨g,0,none⟩=some a∧w.cell? ⟨g,1,none⟩=some b∧w.cell? ⟨g,2,none⟩=some c∧w.cell? ⟨g,3,none⟩=some d∧w.cell? ⟨g,4,none⟩=some e∧w.frozen? ⟨g,0,none⟩=false∧w.frozen? ⟨g,1,none⟩=false∧w.frozen? ⟨g,2,none⟩=false∧w.frozen? ⟨g,3,none⟩=false∧w.frozen? ⟨g,4,none⟩=false :=
 ⟨aC h 0,aC h 1,aC h 2,aC h 3,aC h 4,aK h 0,aK h 1,aK h 2,aK h 3,aK h 4⟩
theorem db {α:Type} {b:Bool} {x y z:α} (h:(if b=true then x else y)=z):(b=true∧x=z)∨(b=false∧y=z):=by
 cases b
 ·exact .inr ⟨rfl,h⟩
 ·exact .inl ⟨rfl,h⟩
theorem dn {α:Type} {p:Prop} [Decidable p] {x:Option α} {z:α} (h:(if p then x else none)=some z):decide p=true∧p∧x=some z:=by
 by_cases c:p
 ·exact⟨decide_eq_true c,c,by rwa [if_pos c]at h⟩
 ·rw[if_neg c]at h;cases h
theorem dp {α:Type} {p:Prop} [Decidable p] {x y z:α} (h:(if p then x else y)=z):(decide p=true∧p∧x=z)∨(decide p=false∧¬p∧y=z):=by
 by_cases c:p
 ·exact .inl ⟨decide_eq_true c,c,by rwa [if_pos c]at h⟩
 ·exact .inr ⟨decide_eq_false c,c,by rwa [if_neg c]at h⟩
section
variable {P:Program} {ops:Array Oper} {Q:Exit→Act→World→Prop} {md:Region.Mode} {S:World→Prop} {ds:List Nat} {fuel:Nat} {l l':Array Bool} {a a':Act} {w:World} {oi:Oper} {v:Value}
theorem pk (i:Nat) (h:aW P md ops Q S ds fuel l' a' w) (hi:ops.toList[i]?=some oi:=by exact rfl)
  (hc:(Region.noSelect ops&&Region.free md ops l i&&(Region.ready md ops l).contains i)=true:=by kernel_rfl)
  (hQ:∀c a w,Q (.panic c) (a.put oi.dst v) w→Q (.panic c) a w:=by exact fun _ _ _ h=>h) (hw:Region.wanted oi (yielded ops a.tmps)=true:=by exact rfl)
  (hv:∀w,(execOp a.eval oi).run P w=.ok (.value v) w:=by(intro w;go_simp;(try (with_reducible rfl))))
  (ha:a.put oi.dst v=a':=by((try simp only[Act.put,List.setIfInBounds_toArray,List.set_cons_zero,List.set_cons_succ,gZ,iK]);(try rfl)))
  (hl:l.setIfInBounds i true=l':=by((try simp only[List.setIfInBounds_toArray,List.set_cons_zero,List.set_cons_succ]);(try rfl))):aW P md ops Q S ds (fuel+1) l a w:=by
 subst ha hl
 rw[qV]at hi
 simp only[Bool.and_eq_true]at hc
 obtain⟨⟨h1,h2⟩,h3⟩:=hc
 exact qg hi (Region.noSelect_spec h1) hQ fuel l a w (Region.free_spec hi h2) (by simpa using h3) (.inl ⟨hw,hv⟩) h
theorem tk (i:Nat) (h:aW P md ops Q S ds fuel l' a' w) (hi:ops.toList[i]?=some oi:=by exact rfl)
  (hc:(Region.noSelect ops&&Region.free md ops l i&&(Region.ready md ops l).contains i&&Region.xB md ops l&&Region.Px md ops l ds i)=true:=by kernel_rfl)
  (hQ:∀c a w,Q (.panic c) (a.put oi.dst v) w→Q (.panic c) a w:=by exact fun _ _ _ h=>h) (hw:Region.wanted oi (yielded ops a.tmps)=true:=by exact rfl)
  (hv:∀w,S w→(execOp a.eval oi).run P w=.ok (.value v) w:=by(intro w hSw;(try dsimp only at hSw);go_simp;(try (with_reducible rfl)))) (hS:S w:=by assumption)
  (ha:a.put oi.dst v=a':=by((try simp only[Act.put,List.setIfInBounds_toArray,List.set_cons_zero,List.set_cons_succ,gZ,iK]);(try rfl)))
  (hl:l.setIfInBounds i true=l':=by((try simp only[List.setIfInBounds_toArray,List.set_cons_zero,List.set_cons_succ]);(try rfl))):aW P md ops Q S ds (fuel+1) l a w:=by
 subst ha hl
 rw[qV]at hi
 simp only[Bool.and_eq_true]at hc
 obtain⟨⟨⟨⟨h1,h2⟩,h3⟩,h4⟩,h5⟩:=hc
 exact oO hi h1 h2 h3 h4 h5 hQ (.inl ⟨hw,hv⟩) hS h
theorem on (i:Nat)
  (h:∀K:Act→World→Prop,Shut (∀a' w',S w'→(S w'→aW P md ops Q S ds fuel l' a' w')→K a' w')→if Region.wanted oi (yielded ops a.tmps)=true then Oper.wp P oi a w K Q else K (a.put oi.dst undef) w)
  (hi:ops.toList[i]?=some oi:=by exact rfl) (hc:Region.ready md ops l=[i]:=by kernel_rfl) (hd:i∉ds:=by decide)
  (hl:l.setIfInBounds i true=l':=by((try simp only[List.setIfInBounds_toArray,List.set_cons_zero,List.set_cons_succ]);(try rfl))):aW P md ops Q S ds (fuel+1) l a w:=by
 subst hl
 rw[qV]at hi
 exact gy hc (by simp) (dO.cons hi hd (fun K hK=>h K hK) dO.nil)
end
section
variable {P:Program} {ops:Array Oper} {o:Oper} {a:Act} {Q:Exit→Act→World→Prop} {rest:List Oper} {W:World}
theorem NS {cs:Array Value} {t:TypeId} {N:Tmp}
 (h:∀g,g=W.heap.size→∀w1,w1.heap[g]?=some (.cells cs t (0,0))→Below W.heap.size W w1→wpList P ops Q rest (a.put o.dst (.pointer (some ⟨g,0,none⟩))) w1)
 (hgd:o.guard=none:=by rfl) (hd:o.dst=some N:=by rfl)
 (hrun:(execOp a.eval o).run P W=.ok (.value (.pointer (some ⟨W.heap.size,0,none⟩))) (W.alloc (.cells cs t (0,0))):=by first|(go_simp;done)|(go_simp;rfl)):wpList P ops Q (o::rest) a W:=XU hgd hd hrun h
end
theorem sz {w W:World} {g:Nat} (hg:g=W.heap.size) (h:Below w.heap.size w W:=by exact ab):aj (w.heap.size≤g):=⟨by rw[hg];exact iF h⟩
theorem st {w W w2:World} (k:Below W.heap.size W w2) (h:Below w.heap.size w W:=by exact ab):aj (Below w.heap.size w w2):=⟨bT h k⟩
end
end Go.Proofs.YtllcccekodcdmaaGreatDoor.Xs
namespace Go.Proofs.YtllcccekodcdmaaGreatDoor.bK
open Go.Proofs.YtllcccekodcdmaaGreatDoor.Xs Go.RowKit Go.Proofs.ak.aT Go.Proofs.ak.cO Go.Proofs.ak.lQ
section
attribute [local go_sem] mW qc
mutual
def aN.j0:Nat→Bool→Int→Int→bG→List (dS)→Option (bG)
 |0,_,_,_,_,_=>none
 |k+1,x14,yt,Nu,Nv,BJ=>if x14=true then(if yt=123 then(aN.j1 k (⟨#[125]⟩:bG) yt Nu Nv BJ)else(aN.j1 k (⟨#[41]⟩:bG) yt Nu Nv BJ))else(some (strOfNums (([yt]:List Int))))
def aN.j1:Nat→bG→Int→Int→bG→List (dS)→Option (bG)
 |0,_,_,_,_,_=>none
 |k+1,x3,yt,Nu,Nv,BJ=>aN.l0 k x3 (strOfNums (([yt]:List Int))) BJ (BJ.length:Int) 0
def aN.l0:Nat→bG→bG→List (dS)→Int→Int→Option (bG)
 |0,_,_,_,_,_=>none
 |k+1,x3,x4,x25,x26,x27=>if x27<x26 then(if 0≤x27 then(if x27<(x25.length:Int)then((aN.f k ((aA x25 x27).f0) ((aA x25 x27).f1) ((aA x25 x27).f2) ((aA x25 x27).f3)).bind fun t138=>(if x4.size+t138.size≤9223372036854775807 then(aN.l0 k x3 (x4++t138) x25 x26 (wrap64 (x27+1)))else(none)))else(none))else(none))else(if x4.size+x3.size≤9223372036854775807 then(some (x4++x3))else(none))
def aN.f:Nat→Int→Int→bG→List (dS)→Option (bG)
 |0,_,_,_,_=>none
 |k+1,aY,bF,bn,aG=>if aY=97 then(if 1+bn.size≤9223372036854775807 then(some ((⟨#[97]⟩:bG)++bn))else(none))else(if aY=40 then(aN.j0 k (aY==40) aY bF bn aG)else(aN.j0 k (aY==123) aY bF bn aG))
end
theorem aN.dZ:∀k,(∀y0 y1 y2 y3,fE (aN.f k y0 y1 y2 y3) (aN.f (k+1) y0 y1 y2 y3))∧(∀y0 y1 y2 y3 y4,fE (aN.j0 k y0 y1 y2 y3 y4) (aN.j0 (k+1) y0 y1 y2 y3 y4))∧(∀y0 y1 y2 y3 y4,fE (aN.j1 k y0 y1 y2 y3 y4) (aN.j1 (k+1) y0 y1 y2 y3 y4))∧(∀y0 y1 y2 y3 y4,fE (aN.l0 k y0 y1 y2 y3 y4) (aN.l0 (k+1) y0 y1 y2 y3 y4))
 |0=>by refine⟨?_,?_,?_,?_⟩<;>(intros;intro r h;simp[aN.f,aN.j0,aN.j1,aN.l0]at h)
 |k+1=>by
  obtain⟨pO,ih1,ih2,ih3⟩:=aN.dZ k
  refine⟨?_,?_,?_,?_⟩
  all_goals
   intros
   first|unfold aN.f|unfold aN.j0|unfold aN.j1|unfold aN.l0
   repeat' first|(with_reducible first|exact fE.refl _|exact fE.none _|refine fE.ite ?_ ?_|refine fE.bind ?_ (fun _=>?_)|apply pO|apply ih1|apply ih2|apply ih3)|apply pO|apply ih1|apply ih2|apply ih3|refine fE.ite ?_ ?_|refine fE.bind ?_ (fun _=>?_)
theorem aN.mono:∀a0 a1 a2 a3 k,fE (aN.f k a0 a1 a2 a3) (aN.f (k+1) a0 a1 a2 a3):=by
 intro a0 a1 a2 a3 k
 obtain⟨pO,ih1,ih2,ih3⟩:=aN.dZ k
 exact pO a0 a1 a2 a3
theorem aN.calls (k:Nat):∀(aY:Int) (bF:Int) (bn:bG) (eH:Option Addr) (dI:Nat) (aG:List (dS)) (r:bG) (w:World) (mV:Kd.C qx w eH aG.length aG) (mQ:aG.length≤dI) (h:aN.f k aY bF bn aG=some r),
  fC 25 #[.agg #[.int .u8 aY,.int .u64 bF,.string bn,.slice eH aG.length dI]] w (.string r):=by
 induction k using Nat.strongRecOn with
 | _ k ih =>
 intro aY bF bn eH dI aG r w mV mQ h
 cases k with
 |zero=>exact absurd h (by simp[aN.f])
 |succ k =>
 simp only[aN.f]at h
 have OZ:=underlying32
 have qh:=aj.mk mV
 have IG:=aj.mk mQ
 have HB:=aj.mk (jM w)
 have H:(if aY=97 then(if 1+bn.size≤9223372036854775807 then(some ((⟨#[97]⟩:bG)++bn))else(none))else(if aY=40 then(aN.j0 k (aY==40) aY bF bn aG)else(aN.j0 k (aY==123) aY bF bn aG)))=some r:=h
 replace H:=de H;obtain⟨Eh,aax,H⟩|⟨Eh,aax,c2,H⟩:=H
 ·by_cases c3:1+bn.size≤9223372036854775807
  ·rw[if_pos c3]at H
   have yU:=eq_true c3
   have Ou:decide (1+bn.size≤9223372036854775807)=true:=decide_eq_true c3
   try have atr:(9223372036854775807<1+bn.size)=False:=eq_false (Nat.not_lt.2 c3)
   obtain rfl:=dU H
   go_enter func25,ntmps25
   go_wp2_with ((with_reducible refine gI (N:=1) rfl ?_);refine NS (N:=1) (cs:=#[.int .u8 aY,.int .u64 bF,.string bn,.slice eH aG.length dI]) (t:=32) ?_;intro jR hg w4 hbox hb;have HB:=aj.mk (bT ab hb);have iM:=aj.mk (hbox);have aku:aj (w.heap.size≤jR):=sz hg;have akt:aj (w.heap.size≤jR):=sz hg;clear hb hbox hg;have aiq:w4.cell? ⟨jR,0,none⟩=some (.int .u8 aY):=(aC iM.o 0).trans rfl;have air:w4.cell? ⟨jR,1,none⟩=some (.int .u64 bF):=(aC iM.o 1).trans rfl;have ais:w4.cell? ⟨jR,2,none⟩=some (.string bn):=(aC iM.o 2).trans rfl;have ait:w4.cell? ⟨jR,3,none⟩=some (.slice eH aG.length dI):=(aC iM.o 3).trans rfl;have aiF:=aK iM.o 0;have aiG:=aK iM.o 1;have aiH:=aK iM.o 2;have aiI:=aK iM.o 3)
   go_ret
   exact⟨re,ab⟩
  ·rw[if_neg c3]at H
   exact absurd H (by simp)
 ·have HC6:=aj.mk H
  go_enter func25,ntmps25
  go_upto_if 14 with (first|((with_reducible refine gI (N:=1) rfl ?_);refine NS (N:=1) (cs:=#[.int .u8 aY,.int .u64 bF,.string bn,.slice eH aG.length dI]) (t:=32) ?_;intro jR hg w7 hbox hb;have HB:=aj.mk (bT ab hb);have iM:=aj.mk (hbox);have aku:aj (w.heap.size≤jR):=sz hg;have akt:aj (w.heap.size≤jR):=sz hg;clear hb hbox hg;have aby:w7.cell? ⟨jR,0,none⟩=some (.int .u8 aY):=(aC iM.o 0).trans rfl;have abz:w7.cell? ⟨jR,1,none⟩=some (.int .u64 bF):=(aC iM.o 1).trans rfl;have abA:w7.cell? ⟨jR,2,none⟩=some (.string bn):=(aC iM.o 2).trans rfl;have abB:w7.cell? ⟨jR,3,none⟩=some (.slice eH aG.length dI):=(aC iM.o 3).trans rfl;have abG:=aK iM.o 0;have abH:=aK iM.o 1;have abI:=aK iM.o 2;have abJ:=aK iM.o 3))
  (try simp only[Act.put,List.setIfInBounds_toArray,List.set_cons_zero,List.set_cons_succ])
  go_cut [14] (fun v14 wc=>∃(kq:Nat) (adE:Bool),v14=.bool adE∧aj (aN.j0 kq adE aY bF bn aG=some r)∧aj (kq≤k)∧aj (wc.heap[jR]?=some (.cells #[.int .u8 aY,.int .u64 bF,.string bn,(.slice eH aG.length dI)] 32 (0,0)))∧aj (Below w.heap.size w wc))
  case first =>
   have H:=HC6.o
   replace H:=de H;obtain⟨yV,aaz,H⟩|⟨yV,aaz,c9,H⟩:=H
   ·(first|rw[yV]|(simp only[gZ,iK];rw[yV])|skip)
    have H':=aj.mk H
    go_wp2
    go_meet
    case rel=>exact⟨_,((aY==40)),rf,H',⟨by first|omega|exact bW⟩,⟨bk⟩,⟨ab⟩⟩
   ·(first|rw[yV]|(simp only[gZ,iK];rw[yV])|skip)
    have H':=aj.mk H
    go_wp2
    go_meet
    case rel=>exact⟨_,((aY==123)),rf,H',⟨by first|omega|exact bW⟩,⟨bk⟩,⟨ab⟩⟩
  case rest =>
   obtain⟨kq,adE,rfl,HA,HJ5,iM,HB⟩:=hcut
   cases kq with
   |zero=>exact absurd HA.o (by simp[aN.j0])
   |succ kj5 =>
    have H:=HA.o
    simp only[aN.j0]at H
    replace H:=db H;obtain⟨rfl,H⟩|⟨rfl,H⟩:=H
    ·have ahv:=aj.mk H
     obtain⟨aeS,aeT,aeU,aeV,afc,afd,afe,aff⟩:=CU iM.o
     go_upto_if 19 with (fail)
     go_cut [3] (fun v3 wc=>∃(kq:Nat) (BM:bG),v3=.string BM∧aj (aN.j1 kq BM aY bF bn aG=some r)∧aj (kq≤kj5)∧aj (wc.heap[jR]?=some (.cells #[.int .u8 aY,.int .u64 bF,.string bn,(.slice eH aG.length dI)] 32 (0,0)))∧aj (Below w.heap.size w wc))
     case first =>
      have H:=ahv.o
      replace H:=de H;obtain⟨uw,Fq,H⟩|⟨uw,Fq,c13,H⟩:=H
      ·(first|rw[uw]|(simp only[gZ,iK];rw[uw])|skip)
       have H':=aj.mk H
       go_wp2
       go_meet
       case rel=>exact⟨_,((⟨#[125]⟩:bG)),rf,H',⟨by have:=HJ5.o;first|omega|exact bW⟩,⟨bk⟩,⟨ab⟩⟩
      ·(first|rw[uw]|(simp only[gZ,iK];rw[uw])|skip)
       have H':=aj.mk H
       go_wp2
       go_meet
       case rel=>exact⟨_,((⟨#[41]⟩:bG)),rf,H',⟨by have:=HJ5.o;first|omega|exact bW⟩,⟨bk⟩,⟨ab⟩⟩
     case rest =>
      obtain⟨kq,BM,rfl,HA,N9,iM,HB⟩:=hcut
      cases kq with
      |zero=>exact absurd HA.o (by simp[aN.j1])
      |succ MC =>
       have H:=HA.o
       simp only[aN.j1]at H
       obtain⟨amS,WQ⟩:∃y_:List Int,y_=(([aY]:List Int)):=⟨_,rfl⟩
       replace H:(aN.l0 MC BM (strOfNums amS) aG (aG.length:Int) 0)=some r:=by first|(rw[WQ];with_reducible exact H)|(have EU:=(Option.bind_some _ _).symm.trans H;rw[WQ];with_reducible exact EU)|(have EU:=(Option.bind_some _ _).symm.trans H;with_reducible exact EU)|with_reducible exact H|(rw[WQ];exact H)|exact H
       have agR:=aj.mk WQ
       have H':=aj.mk H
       obtain⟨KQ,KU,KW,KY,KZ,K_,La,Lc⟩:=CU iM.o
       go_wp2_with ((with_reducible refine gI (N:=22) rfl ?_);refine Kd.agU (Kd.int .u8) _ 5 ?hg (N:=22) ?hd (xs:=([aY]:List Int)) (inner:=[.int .u8 aY]) (ok:=fun _=>True) (iR:=fun _=>True) ?hr ?hp (fun _ hk=>hk) trivial jc bW (by simp) ?_;(case hd=>rfl);(case hg=>rfl);(case hr=>first|(go_simp;done)|(go_simp;rfl));(case hp=>exact(qG.one (show Kd.M (Kd.int .u8) _ _ _ aY [.int .u8 aY]from rfl) (qG.none _ _)));intro auO w15 abN hb hg_ abM;clear hg_ abM;(first|rw[←agR.o]at abN|(simp only[Int.reduceToNat]at abN;rw[←agR.o]at abN));have aky:=aj.mk (Kd.qF abN (iF ab));have iM:=aj.mk (bM (g:=jR) (o:=.cells #[.int .u8 aY,.int .u64 bF,.string bn,.slice eH aG.length dI] 32 (0,0)) bk hb);have HB:=aj.mk (bT ab hb);clear hb abN;have asi:=GL (P:=prog) underlying65 underlying5 underlying9 (Kd.PY aky.o);have Vf:w15.cell? ⟨jR,0,none⟩=some (.int .u8 aY):=(aC iM.o 0).trans rfl;have Vg:w15.cell? ⟨jR,1,none⟩=some (.int .u64 bF):=(aC iM.o 1).trans rfl;have Vh:w15.cell? ⟨jR,2,none⟩=some (.string bn):=(aC iM.o 2).trans rfl;have Vj:w15.cell? ⟨jR,3,none⟩=some (.slice eH aG.length dI):=(aC iM.o 3).trans rfl;have Vu:=aK iM.o 0;have Vw:=aK iM.o 1;have Vx:=aK iM.o 2;have Vy:=aK iM.o 3)
       go_loopg [4,27] MC (fun kq v4 v27 w'=>∃(Em:bG) (nR:Int),v4=.string Em∧v27=.int .i64 nR∧aj (aN.l0 kq BM Em aG (aG.length:Int) nR=some r)∧aj (kq≤MC)∧aj (w'.heap[jR]?=some (.cells #[.int .u8 aY,.int .u64 bF,.string bn,(.slice eH aG.length dI)] 32 (0,0)))∧aj (Below w.heap.size w w'))
       case atStart=>exact⟨(strOfNums amS),(0),rf,rf,H',⟨bW⟩,⟨bk⟩,⟨ab⟩⟩
       case round =>
        obtain⟨Em,nR,rfl,rfl,HA,HK3,iM,HB⟩:=hrel
        cases gk with
        |zero=>exact absurd HA.o (by simp[aN.l0])
        |succ k3 =>
         have H:=HA.o
         simp only[aN.l0]at H
         replace H:=di H;obtain⟨Fv,H⟩|⟨Fv,H⟩:=H
         ·replace H:=dn H;obtain⟨Ot,-,H⟩:=H
          replace H:=dn H;obtain⟨UM,-,H⟩:=H
          replace H:=Option.bind_eq_some_iff.mp H
          obtain⟨t138,adK,H⟩:=H
          replace H:(if Em.size+t138.size≤9223372036854775807 then(aN.l0 k3 BM (Em++t138) aG (aG.length:Int) (wrap64 (nR+1)))else(none))=some r:=H
          have A22:=aj.mk adK
          by_cases c23:Em.size+t138.size≤9223372036854775807
          ·rw[if_pos c23]at H
           have ak4:=eq_true c23
           have arU:decide (Em.size+t138.size≤9223372036854775807)=true:=decide_eq_true c23
           try have arV:(9223372036854775807<Em.size+t138.size)=False:=eq_false (Nat.not_lt.2 c23)
           have H':=aj.mk H
           have ajb:0≤(nR:Int):=od
           have ajq:nR<(aG.length:Int):=od
           obtain⟨UC,ZG,aas,apY,VR,VU,VW,VX,afv,afk⟩:=mD qh.o nR ajb ajq
           cases apY
           replace VR:=up HB.o VR
           replace VU:=up HB.o VU
           replace VW:=up HB.o VW
           replace VX:=up HB.o VX
           have adZ:=aj.mk afk
           have adP:=aj.mk afv
           replace ajb:=eq_true ajb
           replace ajq:=eq_true ajq
           go_wp2_with (first|((with_reducible refine gI (N:=6) rfl ?_);refine NS (N:=6) (cs:=#[.int .u8 0,.int .u64 0,.string (⟨#[]⟩:bG),.slice none 0 0]) (t:=32) ?_;intro Aa hg JO hbox hb;have iM:=aj.mk (bM (g:=jR) (o:=.cells #[.int .u8 aY,.int .u64 bF,.string bn,.slice (some UC) aG.length dI] 32 (0,0)) bk hb);have HB:=aj.mk (bT ab hb);have zx:=aj.mk (hbox);have arv:aj (w.heap.size≤Aa):=sz hg;have aq9:aj (w.heap.size≤Aa):=sz hg;have XE:=aj.mk ((by rw[hg];exact Nat.ne_of_lt (eP (g:=jR) (o:=.cells #[.int .u8 aY,.int .u64 bF,.string bn,.slice (some UC) aG.length dI] 32 (0,0)) bk):jR≠Aa));have XF:=aj.mk ((by rw[hg];exact Nat.ne_of_gt (eP (g:=jR) (o:=.cells #[.int .u8 aY,.int .u64 bF,.string bn,.slice (some UC) aG.length dI] 32 (0,0)) bk):Aa≠jR));clear hb hbox hg;have al9:=XF.o;have amc:=XE.o;have ang:JO.cell? ⟨Aa,0,none⟩=some (.int .u8 0):=(aC zx.o 0).trans rfl;have anh:JO.cell? ⟨Aa,1,none⟩=some (.int .u64 0):=(aC zx.o 1).trans rfl;have ani:JO.cell? ⟨Aa,2,none⟩=some (.string (⟨#[]⟩:bG)):=(aC zx.o 2).trans rfl;have anj:JO.cell? ⟨Aa,3,none⟩=some (.slice none 0 0):=(aC zx.o 3).trans rfl;have an9:=aK zx.o 0;have aoa:=aK zx.o 1;have aob:=aK zx.o 2;have aoc:=aK zx.o 3)|((with_reducible refine dG (f:=25) rfl ?_);refine iU (some 33) rfl rfl func25 (by kernel_rfl) rfl #[.agg #[.int .u8 ((aA aG nR).f0),.int .u64 ((aA aG nR).f1),.string ((aA aG nR).f2),.slice ZG ((aA aG nR).f3).length aas]] rfl mt ?_;(with_reducible refine(ih k3 (by have:=HJ5.o;have:=N9.o;have:=HK3.o;omega) ((aA aG nR).f0) ((aA aG nR).f1) ((aA aG nR).f2) _ _ ((aA aG nR).f3) t138 _ ?jK ?jL A22.o).mono ?_);(case jK=>exact Kd.bQ adZ.o ab);(case jL=>exact adP.o);rintro e w27 ⟨rfl,hb⟩;refine⟨_,rfl,?_⟩;have iM:=aj.mk (bM (g:=jR) (o:=.cells #[.int .u8 aY,.int .u64 bF,.string bn,.slice (some UC) aG.length dI] 32 (0,0)) bz hb);have zx:=aj.mk (bM (g:=Aa) (o:=.cells #[.int .u8 ((aA aG nR).f0),.int .u64 ((aA aG nR).f1),.string ((aA aG nR).f2),.slice ZG ((aA aG nR).f3).length aas] 32 (0,0)) bz hb);have HB:=aj.mk (bT ab hb)))
           go_roundg k3
           case measure=>have:=HJ5.o;have:=N9.o;have:=HK3.o;omega
           case rel=>exact⟨(Em++t138),(wrap64 (nR+1)),rf,rf,H',⟨by have:=HJ5.o;have:=N9.o;have:=HK3.o;omega⟩,⟨bk⟩,⟨ab⟩⟩
          ·rw[if_neg c23]at H
           exact absurd H (by simp)
         ·by_cases c28:Em.size+BM.size≤9223372036854775807
          ·rw[if_pos c28]at H
           have arZ:=eq_true c28
           have ar0:decide (Em.size+BM.size≤9223372036854775807)=true:=decide_eq_true c28
           try have ar1:(9223372036854775807<Em.size+BM.size)=False:=eq_false (Nat.not_lt.2 c28)
           obtain rfl:=dU H
           go_wp2
           go_ret
           exact⟨re,ab⟩
          ·rw[if_neg c28]at H
           exact absurd H (by simp)
    ·obtain⟨aq8,WR⟩:∃y_:List Int,y_=(([aY]:List Int)):=⟨_,rfl⟩
     replace H:(some (strOfNums aq8))=some r:=by first|(rw[WR];with_reducible exact H)|(have EU:=(Option.bind_some _ _).symm.trans H;rw[WR];with_reducible exact EU)|(have EU:=(Option.bind_some _ _).symm.trans H;with_reducible exact EU)|with_reducible exact H|(rw[WR];exact H)|exact H
     have agS:=aj.mk WR
     obtain rfl:=dU H
     obtain⟨anq,anr,ant,anu,aoi,aoj,aok,aol⟩:=CU iM.o
     go_wp2_with ((with_reducible refine gI (N:=41) rfl ?_);refine Kd.agU (Kd.int .u8) _ 5 ?hg (N:=41) ?hd (xs:=([aY]:List Int)) (inner:=[.int .u8 aY]) (ok:=fun _=>True) (iR:=fun _=>True) ?hr ?hp (fun _ hk=>hk) trivial jc bW (by simp) ?_;(case hd=>rfl);(case hg=>rfl);(case hr=>first|(go_simp;done)|(go_simp;rfl));(case hp=>exact(qG.one (show Kd.M (Kd.int .u8) _ _ _ aY [.int .u8 aY]from rfl) (qG.none _ _)));intro auP w30 abO hb hg_ abM;clear hg_ abM;(first|rw[←agS.o]at abO|(simp only[Int.reduceToNat]at abO;rw[←agS.o]at abO));have akz:=aj.mk (Kd.qF abO (iF ab));have iM:=aj.mk (bM (g:=jR) (o:=.cells #[.int .u8 aY,.int .u64 bF,.string bn,.slice eH aG.length dI] 32 (0,0)) bk hb);have HB:=aj.mk (bT ab hb);clear hb abO;have asj:=GL (P:=prog) underlying65 underlying5 underlying9 (Kd.PY akz.o))
     go_ret
     exact⟨re,ab⟩
def dA.l0:Nat→bG→List (dS)→Int→Int→Option (bG)
 |0,_,_,_,_=>none
 |k+1,x3,x6,x7,x8=>if x8<x7 then(if 0≤x8 then(if x8<(x6.length:Int)then((aN.f k ((aA x6 x8).f0) ((aA x6 x8).f1) ((aA x6 x8).f2) ((aA x6 x8).f3)).bind fun t144=>(if x3.size+t144.size≤9223372036854775807 then(dA.l0 k (x3++t144) x6 x7 (wrap64 (x8+1)))else(none)))else(none))else(none))else(some x3)
def dA.f (k:Nat) (l0:List (dS)):Option (bG):=dA.l0 k (⟨#[]⟩:bG) l0 (l0.length:Int) 0
theorem dA.dZ:∀k,(∀y0 y1 y2 y3,fE (dA.l0 k y0 y1 y2 y3) (dA.l0 (k+1) y0 y1 y2 y3))
 |0=>fun _ _ _ _ r h=>by simp[dA.l0]at h
 |k+1=>by
  have pO:=dA.dZ k
  ·intro y0 y1 y2 y3
   unfold dA.l0
   repeat' first
   |(with_reducible exact pO _ _ _ _)
   |(with_reducible exact aN.mono _ _ _ _ _)
   |(with_reducible exact fE.refl _)
   |(with_reducible exact fE.none _)
   |(with_reducible refine fE.ite ?_ ?_)
   |(with_reducible refine fE.bind ?_ (fun _=>?_))
   |exact pO _ _ _ _
   |exact aN.mono _ _ _ _ _
   |exact fE.none _
   |refine fE.ite ?_ ?_
   |refine fE.bind ?_ (fun _=>?_)
theorem dA.calls (k:Nat) (A0:Option Addr) (c0:Nat) (l0:List (dS)) (r:bG) (w:World) (hr0:Kd.C qx w A0 l0.length l0) (hc0:l0.length≤c0) (h:dA.f k l0=some r) :
  fC 14 #[.slice A0 l0.length c0] w (.string r):=by
 have OZ:=underlying32
 have HR0:=aj.mk hr0
 have HC0:=aj.mk hc0
 have HB:=aj.mk (jM w)
 have H:(dA.l0 k (⟨#[]⟩:bG) l0 (l0.length:Int) 0)=some r:=h
 have H':=aj.mk H
 go_enter func14,ntmps14
 go_wp2
 go_loopg [3,8] k (fun kq v3 v8 w'=>∃(jr:bG) (b_:Int),v3=.string jr∧v8=.int .i64 b_∧aj (dA.l0 kq jr l0 (l0.length:Int) b_=some r)∧aj (kq≤k)∧aj (Below w.heap.size w w'))
 case atStart=>exact⟨((⟨#[]⟩:bG)),(0),rf,rf,H',⟨bW⟩,⟨ab⟩⟩
 case round =>
  obtain⟨jr,b_,rfl,rfl,HA,pX,HB⟩:=hrel
  cases gk with
  |zero=>exact absurd HA.o (by simp[dA.l0])
  |succ k1 =>
   have H:=HA.o
   simp only[dA.l0]at H
   replace H:=di H;obtain⟨Eh,H⟩|⟨Eh,H⟩:=H
   ·replace H:=dn H;obtain⟨yU,-,H⟩:=H
    replace H:=dn H;obtain⟨u_,-,H⟩:=H
    replace H:=Option.bind_eq_some_iff.mp H
    obtain⟨t144,A50,H⟩:=H
    replace H:(if jr.size+t144.size≤9223372036854775807 then(dA.l0 k1 (jr++t144) l0 (l0.length:Int) (wrap64 (b_+1)))else(none))=some r:=H
    have A5:=aj.mk A50
    by_cases c6:jr.size+t144.size≤9223372036854775807
    ·rw[if_pos c6]at H
     have tC:=eq_true c6
     have FC:decide (jr.size+t144.size≤9223372036854775807)=true:=decide_eq_true c6
     try have att:(9223372036854775807<jr.size+t144.size)=False:=eq_false (Nat.not_lt.2 c6)
     have H':=aj.mk H
     have ajc:0≤(b_:Int):=od
     have ajr:b_<(l0.length:Int):=od
     obtain⟨arR,ZH,aat,apZ,VY,VZ,V3,V4,afw,afl⟩:=mD HR0.o b_ ajc ajr
     cases apZ
     replace VY:=up HB.o VY
     replace VZ:=up HB.o VZ
     replace V3:=up HB.o V3
     replace V4:=up HB.o V4
     have ad1:=aj.mk afl
     have adQ:=aj.mk afw
     replace ajc:=eq_true ajc
     replace ajr:=eq_true ajr
     go_wp2_with (first|((with_reducible refine gI (N:=5) rfl ?_);refine NS (N:=5) (cs:=#[.int .u8 0,.int .u64 0,.string (⟨#[]⟩:bG),.slice none 0 0]) (t:=32) ?_;intro Gm hg w7 hbox hb;have HB:=aj.mk (bT ab hb);have zy:=aj.mk (hbox);have arw:aj (w.heap.size≤Gm):=sz hg;have ara:aj (w.heap.size≤Gm):=sz hg;clear hb hbox hg;have aby:w7.cell? ⟨Gm,0,none⟩=some (.int .u8 0):=(aC zy.o 0).trans rfl;have abz:w7.cell? ⟨Gm,1,none⟩=some (.int .u64 0):=(aC zy.o 1).trans rfl;have abA:w7.cell? ⟨Gm,2,none⟩=some (.string (⟨#[]⟩:bG)):=(aC zy.o 2).trans rfl;have abB:w7.cell? ⟨Gm,3,none⟩=some (.slice none 0 0):=(aC zy.o 3).trans rfl;have abG:=aK zy.o 0;have abH:=aK zy.o 1;have abI:=aK zy.o 2;have abJ:=aK zy.o 3)|((with_reducible refine dG (f:=25) rfl ?_);refine iU (some 14) rfl rfl func25 (by kernel_rfl) rfl #[.agg #[.int .u8 ((aA l0 b_).f0),.int .u64 ((aA l0 b_).f1),.string ((aA l0 b_).f2),.slice ZH ((aA l0 b_).f3).length aat]] rfl mt ?_;(with_reducible refine(aN.calls k1 ((aA l0 b_).f0) ((aA l0 b_).f1) ((aA l0 b_).f2) _ _ ((aA l0 b_).f3) t144 _ ?jK ?jL A5.o).mono ?_);(case jK=>exact Kd.bQ ad1.o ab);(case jL=>exact adQ.o);rintro e w9 ⟨rfl,hb⟩;refine⟨_,rfl,?_⟩;have zy:=aj.mk (bM (g:=Gm) (o:=.cells #[.int .u8 ((aA l0 b_).f0),.int .u64 ((aA l0 b_).f1),.string ((aA l0 b_).f2),.slice ZH ((aA l0 b_).f3).length aat] 32 (0,0)) bz hb);have HB:=aj.mk (bT ab hb)))
     go_roundg k1
     case measure=>have:=pX.o;omega
     case rel=>exact⟨(jr++t144),(wrap64 (b_+1)),rf,rf,H',⟨by have:=pX.o;omega⟩,⟨ab⟩⟩
    ·rw[if_neg c6]at H
     exact absurd H (by simp)
   ·obtain rfl:=dU H
    go_wp2
    go_ret
    exact⟨re,ab⟩
def eF.f (a0:Int):Option (Bool):=if a0=121 then(some true)else(if a0=98 then(some true)else(if a0=110 then(some true)else(if a0=113 then(some true)else(if a0=105 then(some true)else(if a0=117 then(some true)else(if a0=120 then(some true)else(if a0=116 then(some true)else(if a0=100 then(some true)else(if a0=115 then(some true)else(if a0=111 then(some true)else(if a0=103 then(some true)else(if a0=104 then(some true)else(some false)))))))))))))
theorem eF.calls (a0:Int) (r:Bool) (w:World) (h:eF.f a0=some r) :
  Calls prog 125 #[.int .u8 a0] w fun e w'=>e=.returned (.bool r)∧iD w w':=by
 have H:(if a0=121 then(some true)else(if a0=98 then(some true)else(if a0=110 then(some true)else(if a0=113 then(some true)else(if a0=105 then(some true)else(if a0=117 then(some true)else(if a0=120 then(some true)else(if a0=116 then(some true)else(if a0=100 then(some true)else(if a0=115 then(some true)else(if a0=111 then(some true)else(if a0=103 then(some true)else(if a0=104 then(some true)else(some false))))))))))))))=some r:=h
 replace H:=de H;obtain⟨Eh,aax,H⟩|⟨Eh,aax,c2,H⟩:=H
 ·obtain rfl:=dU H
  go_enter func125,ntmps125
  go_wp2
  go_ret
  exact⟨rf,dr⟩
 ·replace H:=de H;obtain⟨yU,Ou,H⟩|⟨yU,Ou,c3,H⟩:=H
  ·obtain rfl:=dU H
   go_enter func125,ntmps125
   go_wp2
   go_ret
   exact⟨rf,dr⟩
  ·replace H:=de H;obtain⟨u_,Ox,H⟩|⟨u_,Ox,c4,H⟩:=H
   ·obtain rfl:=dU H
    go_enter func125,ntmps125
    go_wp2
    go_ret
    exact⟨rf,dr⟩
   ·replace H:=de H;obtain⟨Ku,Rq,H⟩|⟨Ku,Rq,c5,H⟩:=H
    ·obtain rfl:=dU H
     go_enter func125,ntmps125
     go_wp2
     go_ret
     exact⟨rf,dr⟩
    ·replace H:=de H;obtain⟨tC,FC,H⟩|⟨tC,FC,c6,H⟩:=H
     ·obtain rfl:=dU H
      go_enter func125,ntmps125
      go_wp2
      go_ret
      exact⟨rf,dr⟩
     ·replace H:=de H;obtain⟨Kv,Rt,H⟩|⟨Kv,Rt,c7,H⟩:=H
      ·obtain rfl:=dU H
       go_enter func125,ntmps125
       go_wp2
       go_ret
       exact⟨rf,dr⟩
      ·replace H:=de H;obtain⟨Oy,aay,H⟩|⟨Oy,aay,c8,H⟩:=H
       ·obtain rfl:=dU H
        go_enter func125,ntmps125
        go_wp2
        go_ret
        exact⟨rf,dr⟩
       ·replace H:=de H;obtain⟨yV,aaz,H⟩|⟨yV,aaz,c9,H⟩:=H
        ·obtain rfl:=dU H
         go_enter func125,ntmps125
         go_wp2
         go_ret
         exact⟨rf,dr⟩
        ·replace H:=de H;obtain⟨Oo,aar,H⟩|⟨Oo,aar,c10,H⟩:=H
         ·obtain rfl:=dU H
          go_enter func125,ntmps125
          go_wp2
          go_ret
          exact⟨rf,dr⟩
         ·replace H:=de H;obtain⟨zM,Oq,H⟩|⟨zM,Oq,c11,H⟩:=H
          ·obtain rfl:=dU H
           go_enter func125,ntmps125
           go_wp2
           go_ret
           exact⟨rf,dr⟩
          ·replace H:=de H;obtain⟨wL,UL,H⟩|⟨wL,UL,c12,H⟩:=H
           ·obtain rfl:=dU H
            go_enter func125,ntmps125
            go_wp2
            go_ret
            exact⟨rf,dr⟩
           ·replace H:=de H;obtain⟨uw,Fq,H⟩|⟨uw,Fq,c13,H⟩:=H
            ·obtain rfl:=dU H
             go_enter func125,ntmps125
             go_wp2
             go_ret
             exact⟨rf,dr⟩
            ·replace H:=de H;obtain⟨aau,akX,H⟩|⟨aau,akX,c14,H⟩:=H
             ·obtain rfl:=dU H
              go_enter func125,ntmps125
              go_wp2
              go_ret
              exact⟨rf,dr⟩
             ·obtain rfl:=dU H
              go_enter func125,ntmps125
              go_wp2
              go_ret
              exact⟨rf,dr⟩
end
end Go.Proofs.YtllcccekodcdmaaGreatDoor.bK
