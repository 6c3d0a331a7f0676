import Derived.ArgAppend
import Derived.Below
import Derived.BigQuiet
import Derived.Deep.AppendLies
import Derived.Deep.CutBlock
import Derived.Deep.DeepCutAuto
import Derived.Deep.Draws
import Derived.Deep.LoopGhost
import Derived.Deep.OwnRows
import Derived.Deep.QuietTactic
import Derived.Deep.RegionHeld
import Derived.Deep.RegionHeld3
import Derived.KernelRfl
import Derived.Laws.BytesArg
import Derived.Laws.Concat
import Derived.Laws.IdiomCopy
import Derived.Laws.MakeOwn
import Derived.Laws.OwnMore
import Derived.Laws.Rows
import Derived.Laws.Slices
import Derived.Lib.AppendStr
import Derived.Lib.Builder
import Derived.Lib.ConvBytes
import Derived.Lib.Hide
import Derived.Maps.AppendAt
import Derived.OwnWalk
import Derived.RowKit
import Derived.RowKit3
import Derived.Tactics
import Derived.Test.YtllcccekodcdmaaGreatDoorProg
import Derived.WalkKit
import Derived.WideLaws
set_option linter.unusedVariables false
set_option linter.unusedSimpArgs false
set_option maxRecDepth 100000
set_option maxHeartbeats 32000000
open Go.Proofs.Tryz
namespace Go
open RowKit Go.Proofs
abbrev fC (n:Nat) (x:Array Value) (w:World) (v:Value):Prop:=Calls Tryz.prog n x w fun e w'=>e=.returned v∧Below w.heap.size w w'
abbrev uQ (n:Nat) (x:Array Value) (w:World) (v:Value):Prop:=Calls Tryz.prog n x w fun e w'=>e=.returned v∧w=w'
theorem gU {n:Nat} {x:Array Value} {w u:World} {v:Value} {p Q:Ending→World→Prop} (h:Calls Tryz.prog n x w p) (k:Q (.returned v) u) (e:∀e' w',p e' w'→e'=.returned v∧u=w':=by(rintro _ _ ⟨rfl,rfl⟩;exact⟨rfl,rfl⟩)):Calls Tryz.prog n x w Q:=h.mono fun a b c=>have ⟨d,f⟩:=e a b c;d▸f▸k
theorem bW {n:Nat}:n≤n:=Nat.le_refl n
theorem jc {B:Nat} {w:World}:Below B w w:=Below.refl B w
theorem jM (w:World):Below w.heap.size w w:=Below.refl _ w
theorem gG {w:World} (o:Obj):Below w.heap.size w (w.alloc o):=(Below.refl _ _).alloc (Nat.le_refl _) o
theorem oZ (w:World) (a b:ByteArray) (h:a.size+b.size≤9223372036854775807):(Op.stringOp .add a b).run Tryz.prog w=.ok (.string (a++b)) w:=run_string_add_sum (P:=Tryz.prog) (w:=w) a b h
theorem Shut.o {p:Prop} (h:Shut p):p:=h
theorem RowKit.Hid.o {p:Prop} (h:Hid p):p:=h
theorem H7 {p:Prop} (h:p:=by constructor<;>first|kernel_rfl|(intro w;simp[go_sem];done)|(constructor<;>first|kernel_rfl|(intro w;simp[go_sem];done))):p:=h
abbrev ah:=@Lib.hid
abbrev fA:=@World.block_lt_of_cell?
abbrev dY:=@List.length_append
abbrev d_:=@List.length_cons
abbrev gK:=@ByteArray.size_append
abbrev lu:=@List.take_succ_eq_append_getElem
abbrev gQ:=@List.getElem?_eq_getElem
abbrev nZ:=@List.getElem_mem
abbrev kT:=@List.take_of_length_le
abbrev kS:=@beq_eq_false_iff_ne
abbrev ku:=@Below.heap_setCell
abbrev kN:=@Below.heap_alloc
abbrev lF:=@List.cons_append
abbrev kW:=@List.length_nil
abbrev ni:=@List.append_assoc
abbrev mM:=@Lib.cell_of_heap
abbrev qV:=@Array.getElem?_toList
abbrev dU:=@Option.some.inj
abbrev wC:=@List.getD_eq_getElem?_getD
abbrev jf:=@Nat.zero_le
abbrev bG:=ByteArray
abbrev iW:=@bodyPost_ret
end Go
namespace Go.Proofs.ak.aT
open Go.RowKit
section
structure aj (p:Prop):Prop where mk::(out:p)
structure iD (w w':World):Prop where mk::(out:∃n,w'=w.drewN n)
theorem iD.refl (w:World):iD w w:=⟨⟨0,rfl⟩⟩
theorem iD.step {w w':World} (h:iD w w') (n:Nat):iD w (w'.drewN n):=by
 obtain⟨m,rfl⟩:=h
 exact⟨⟨m+n,World.drewN_drewN ..⟩⟩
theorem iD.below {w w':World} (h:iD w w'):Below w.heap.size w w':=by
 obtain⟨n,rfl⟩:=h
 induction n with
 |zero=>exact jc
 |succ n ih=>rw[←World.drew_drewN];exact ih.drew
def bt (s:bG) (i:Int):Int:=if h:i.toNat<s.size then((s[i.toNat]'h).toNat:Int)else 0
theorem lI (s:bG) (i:Int):∀h:i.toNat<s.size,((s[i.toNat]'h).toNat:Int)=bt s i:=fun h=>by simp[bt,h]
def nums (k:IntKind) (xs:List Int):List Value:=xs.map fun x=>.int k x
theorem nJ {w W:World} (h:Below w.heap.size w W) (o:Obj):Below w.heap.size w (W.alloc o):=h.alloc h.size o
theorem QW {B:Nat} {w W:World} (h:Below B w W):Below B w W.drew:=⟨h.os,h.tape,h.output,h.size,h.block⟩
theorem rG {B:Nat} {w W:World} (h:Below B w W) (n:Nat):Below B w (W.drewN n):=⟨h.os,h.tape,h.output,h.size,h.block⟩
theorem QX {B:Nat} {w w1 w2:World} (h:Below B w w1) (hB:B≤w1.heap.size) (k:Below w1.heap.size w1 w2):Below B w w2 :=
 h.trans ⟨k.os,k.tape,k.output,k.size,fun i hi=>k.block i (Nat.lt_of_lt_of_le hi hB)⟩
theorem yN {w w1:World} (h:Below w.heap.size w w1) {a:Addr} {v:Value} (hc:w.cell? a=some v):w1.cell? a=some v:=(h.cell (fA w a hc)).trans hc
theorem add_plain (g j:Nat):(⟨g,0,none⟩:Addr).add j=⟨g,j,none⟩:=by unfold Addr.add;split<;>simp_all
theorem af7 (W:World) (base:Nat) (e:TypeId) (size:Nat):W.ownsRow base e size (.slice none 0 0) 0 []:=⟨by simp,.inl ⟨rfl,rfl⟩⟩
theorem rE {w:World} {base:Nat} {e:TypeId} {size n:Nat} {v:Value} {xs:List Value} (h:w.ownsRow base e size v n xs) (k:Nat) (hk:v.ownBlock=some k):base≤k:=by
 rcases h.2 with ⟨rfl,_⟩|⟨g,cap,cur,rfl,hb,_⟩
 ·simp[Value.ownBlock]at hk
 ·have:g=k:=by simpa[Value.ownBlock]using hk
  omega
theorem TJ {w:World} {base:Nat} {e:TypeId} {size n:Nat} {v:Value} {xs:List Value} (h:w.ownsRow base e size v n xs) (k:Nat) (hk:v.ownBlock=some k):k<w.heap.size:=by
 rcases h.2 with ⟨rfl,_⟩|⟨g,cap,cur,rfl,hb,hh,_⟩
 ·simp[Value.ownBlock]at hk
 ·have:g=k:=by simpa[Value.ownBlock]using hk
  subst this
  exact(Array.getElem?_eq_some_iff.1 hh).1
theorem GL {P:Program} {w:World} {base n:Nat} {e' src dst e:TypeId} {v:Value} {xs:List Int} (hs:P.underlying src=some (.slice e)) (he:P.underlying e=some (.int .u8)) (hd:P.underlying dst=some .string)
  (h:w.ownsRow base e' 1 v n (nums .u8 xs)):(convert src dst v).run P w=.ok (.string (strOfNums xs)) w:=by
 have hl:xs.length=n:=by have:=h.1;simp[nums]at this;exact this
 rcases h.2 with ⟨rfl,rfl⟩|⟨g,cap,cur,rfl,_⟩
 ·obtain rfl:xs=[]:=List.eq_nil_of_length_eq_zero hl
  exact run_convert_bytes_nil w src e hs he 0 0 dst hd
 ·refine run_convert_bytes_arg w src e hs he g 0 n cap xs hl (fun i hi=>?_) dst hd
  have hc:=h.cells (g:=g) rfl i (.int .u8 (xs.getD i 0)) (by simp[nums,gQ (show i<xs.length by omega),wC])
  have ha:(⟨g,0,none⟩:Addr).add i=⟨g,0+i,none⟩:=by unfold Addr.add;split<;>simp_all
  rwa [ha]at hc
section
variable {P:Program} {ops:Array Oper} {rest:List Oper} {o:Oper} {a:Act} {Q:Exit→Act→World→Prop}
end
section
variable {P:Program}
end
section
variable {P:Program} {ops:Array Oper} {rest:List Oper} {o:Oper} {a:Act} {Q:Exit→Act→World→Prop}
end
def fE {α:Type} (a b:Option α):Prop:=∀r,a=some r→b=some r
theorem fE.refl {α:Type} (a:Option α):fE a a:=fun _ h=>h
theorem fE.ite {α:Type} {c:Prop} [Decidable c] {a a' b b':Option α} (h:fE a a') (k:fE b b'):fE (if c then a else b) (if c then a' else b'):=by
 split
 ·exact h
 ·exact k
theorem fE.bind {α β:Type} {a a':Option α} {f f':α→Option β} (h:fE a a') (k:∀x,fE (f x) (f' x)):fE (a.bind f) (a'.bind f'):=by
 intro r hr
 obtain⟨x,hx,hf⟩:=Option.bind_eq_some_iff.1 hr
 exact Option.bind_eq_some_iff.2 ⟨x,h x hx,k x r hf⟩
def qG {α:Type} (R:α→List Value→Prop) (size:Nat) (ps:List α) (cs:List Value):Prop :=
 cs.length=ps.length*size∧∀j p,ps[j]?=some p→R p ((cs.drop (j*size)).take size)
theorem qG.none {α:Type} (R:α→List Value→Prop) (size:Nat):qG R size [] []:=⟨by simp,fun j p h=>by simp at h⟩
theorem qG.snoc {α:Type} {R:α→List Value→Prop} {size:Nat} {ps:List α} {cs c:List Value} {p:α} (h:qG R size ps cs) (hp:R p c) (hc:c.length=size):qG R size (ps++[p]) (cs++c):=by
 refine⟨by rw[dY,h.1,hc,dY,List.length_singleton,Nat.add_mul,Nat.one_mul],fun j q hq=>?_⟩
 rcases Nat.lt_or_ge j ps.length with hj|hj
 ·rw[List.getElem?_append_left hj]at hq
  have h1:j*size+size≤cs.length:=by rw[h.1,←Nat.succ_mul];exact Nat.mul_le_mul_right _ hj
  have h2:=h.2 j q hq
  rw[List.drop_append_of_le_length (by omega),List.take_append_of_le_length (by rw[List.length_drop];omega)]
  exact h2
 ·have hj':j=ps.length:=by
   have:=(List.getElem?_eq_some_iff.1 hq).1
   rw[dY,List.length_singleton]at this
   omega
  subst hj'
  have hq':p=q:=by simpa using hq
  subst hq'
  rw[←h.1,List.drop_left,←hc,List.take_length]
  exact hp
theorem qG.AZ {α:Type} {R R':α→List Value→Prop} {size:Nat} {ps:List α} {cs:List Value} (h:qG R size ps cs) (hR:∀p c,R p c→R' p c):qG R' size ps cs:=⟨h.1,fun j p hj=>hR _ _ (h.2 j p hj)⟩
def mJ {α:Type} (R:α→List Value→Prop) (size:Nat) (w:World) (A:Option Addr) (n:Nat) (ps:List α):Prop :=
 ps.length=n∧n≤9223372036854775807∧(0<n→∃ad,A=some ad∧∀j p,ps[j]?=some p→∃c,c.length=size∧R p c∧∀i u,c[i]?=some u→w.cell? (ad.add (j*size+i))=some u)
theorem mJ.aqe {α:Type} {R:α→List Value→Prop} {size:Nat} {w:World} {A:Option Addr} {n:Nat} {ps:List α} (h:mJ R size w A n ps) (d:α) (i:Int) (h0:0≤i) (h1:i<n) :
  ∃ad c,A=some ad∧c.length=size∧R (ps.getD i.toNat d) c∧∀j u,c[j]?=some u→w.cell? (ad.add (i.toNat*size+j))=some u:=by
 obtain⟨ad,e,hc⟩:=h.2.2 (by omega)
 have hl:i.toNat<ps.length:=by have:=h.1;omega
 obtain⟨c,hs,hr,hcell⟩:=hc i.toNat _ (gQ hl)
 refine⟨ad,c,e,hs,?_,hcell⟩
 rw[wC,gQ hl]
 exact hr
theorem mJ.AZ {α:Type} {R R':α→List Value→Prop} {size:Nat} {w w1:World} {A:Option Addr} {n:Nat} {ps:List α} (h:mJ R size w A n ps) (hb:Below w.heap.size w w1) (hR:∀p c,R p c→R' p c):mJ R' size w1 A n ps :=
 ⟨h.1,h.2.1,fun hn=>by
   obtain⟨ad,e,hc⟩:=h.2.2 hn
   refine⟨ad,e,fun j p hj=>?_⟩
   obtain⟨c,hs,hr,hcell⟩:=hc j p hj
   exact⟨c,hs,hR _ _ hr,fun i u hu=>yN hb (hcell i u hu)⟩⟩
theorem Ir {α:Type} {R:α→List Value→Prop} {w:World} {base n size:Nat} {e:TypeId} {v:Value} {ps:List α} {cs:List Value} (h:w.ownsRow base e size v n cs) (hR:qG R size ps cs) (hn:ps.length=n) :
  ∃A c,v=.slice A n c∧mJ R size w A n ps:=by
 rcases Nat.eq_zero_or_pos n with h0|h0
 ·rcases h.2 with ⟨rfl,rfl⟩|⟨g,cap,cur,rfl,_⟩
  ·exact⟨none,0,rfl,hn,by omega,fun hp=>absurd hp (by omega)⟩
  ·exact⟨_,cap,rfl,hn,by omega,fun hp=>absurd hp (by omega)⟩
 ·obtain⟨g,cap,rfl,_,_⟩:=h.form h0
  have hm:n≤9223372036854775807:=by
   rcases h.2 with ⟨_,h1⟩|⟨g',cap',cur,he,_,_,h1,h2,_⟩
   ·omega
   ·simp only[maxLen]at h2
    omega
  refine⟨_,cap,rfl,hn,hm,fun _=>⟨_,rfl,fun j p hj=>⟨(cs.drop (j*size)).take size,?_,hR.2 j p hj,fun i u hu=>?_⟩⟩⟩
  ·have hjl:=(List.getElem?_eq_some_iff.1 hj).1
   have h1:j*size+size≤cs.length:=by rw[hR.1,←Nat.succ_mul];exact Nat.mul_le_mul_right _ hjl
   rw[List.length_take,List.length_drop]
   omega
  ·refine h.cells (g:=g) rfl _ u ?_
   rw[List.getElem?_take]at hu
   split at hu
   ·rw[List.getElem?_drop]at hu
    exact hu
   ·cases hu
theorem iE (ad:Addr) (m j:Nat) (hj:0<j):ad.add (m+j)=⟨(ad.add m).block,(ad.add m).off+j,none⟩:=by
 unfold Addr.add
 by_cases hm:m=0
 ·subst hm
  simp[Nat.ne_of_gt hj]
 ·simp[hm,Nat.add_assoc]
section
variable {P:Program} {ops:Array Oper} {rest:List Oper} {o:Oper} {a:Act} {Q:Exit→Act→World→Prop}
theorem zh {w0 W:World} (base:Nat) (hgd:o.guard=none) (s x:Operand) (t e:TypeId) (z:Value) (size bytes:Nat)
  (ho:o.op=.call {callee:=.builtin .append,args:=#[s,x],argTypes:=#[t,t]})
  (ht:P.underlying t=some (.slice e)) (hinfo:(P.info? e).map (fun i=>(i.zero,i.size,i.bytes))=some (some z,size,bytes)) (hz:z.cells.size=size) (hs0:0<size) (hb0:0<bytes)
  (v:Value) (n:Nat) (xs ys:List Value) (hs:a.eval s=v) (hx:a.eval x=.slice (some ⟨W.heap.size,0,none⟩) 1 1) (hys:ys.length=size) (h1:∀u∈ys,u.oneCell'=true)
  (HO:W.ownsRow base e size v n xs) (HB:Below base w0 W) (hbase:base≤W.heap.size) (hl:(n+1)*bytes≤140737488355328)
  (h:∀v1 w1,w1.ownsRow base e size v1 (n+1) (xs++ys)→Below base w0 w1→W.grownBy w1 v.ownBlock→(v1.ownBlock=v.ownBlock∨∃b,v1.ownBlock=some b∧W.heap.size≤b)→wpList P ops Q rest (a.put o.dst v1) w1) :
  wpList P ops Q (o::rest) a (W.alloc (.cells ys.toArray e)):=by
 obtain⟨i0,hi,hzz⟩:=Option.map_eq_some_iff.1 hinfo
 simp only[Prod.mk.injEq]at hzz
 obtain⟨hz0,hz1,hz2⟩:=hzz
 have hlen:n+1≤140737488355328:=Nat.le_trans (Nat.le_mul_of_pos_right _ hb0) hl
 refine wpList_append_own_at (W.alloc (.cells ys.toArray e)) hgd s x t ho base e i0 z size bytes ht hi hz0 hz1 hz2 hz hs0 v n xs hs (HO.alloc _) ⟨W.heap.size,0,none⟩ 1 1 ys hx (by rw[hys];simp)
  (by simpa using World.news_of_block (cs:=ys.toArray) (t:=e) (fr:=(0,0)) (heap_alloc_new W (.cells ys.toArray e))) h1 (by simp only[maxLen];omega) hl (by simp;omega) ?_
 intro v1 w1 hown hg _ hat
 refine h v1 w1 hown ((HB.alloc hbase _).grown hg (by simp;omega) (rE HO)) (World.grownBy.trans (World.grownBy_alloc W _ _) hg) ?_
 rcases hat with hat|hat
 ·exact .inl hat
 ·exact .inr ⟨_,hat,by simp⟩
end
theorem acE {w:World} {base:Nat} {e t:TypeId} {size n g:Nat} {v:Value} {xs:List Value} {cs:Array Value} (h:w.ownsRow base e size v n xs) (hg:w.heap[g]?=some (.cells cs t (0,0))) (hne:e≠t):some g≠v.ownBlock:=by
 rcases h.2 with ⟨rfl,_⟩|⟨g',cap,cur,rfl,_,hh,_⟩
 ·simp[Value.ownBlock]
 ·intro he
  have:g=g':=by simpa[Value.ownBlock]using he
  subst this
  rw[hg]at hh
  injection hh with hh
  injection hh with _ ht
  exact hne ht.symm
theorem Ez {w:World} {g:Nat} {t:TypeId} {cs:Array Value} (h:w.heap[g]?=some (.cells cs t (0,0))) (i:Nat) (u:Value):(w.setCell ⟨g,i,none⟩ u).heap[g]?=some (.cells (cs.setIfInBounds i u) t (0,0)):=by
 simp[World.setCell,Array.getElem?_modify,h]
theorem aeh {w:World} {g:Nat} {t:TypeId} {cs:Array Value} (h:w.heap[g]?=some (.cells cs t (0,0))) {p:Addr} (hp:g≠p.block) (u:Value):(w.setCell p u).heap[g]?=some (.cells cs t (0,0)):=(ku w p u g hp).trans h
theorem eP {w:World} {g:Nat} {o:Obj} (h:w.heap[g]?=some o):g<w.heap.size:=(Array.getElem?_eq_some_iff.1 h).1
theorem aC {w:World} {g:Nat} {t:TypeId} {cs:Array Value} (h:w.heap[g]?=some (.cells cs t (0,0))) (i:Nat):w.cell? ⟨g,i,none⟩=cs[i]?:=cell_of_row w g i cs t (0,0) h
theorem aK {w:World} {g:Nat} {t:TypeId} {cs:Array Value} (h:w.heap[g]?=some (.cells cs t (0,0))) (i:Nat):w.frozen? ⟨g,i,none⟩=false:=by simp[World.frozen?,h]
theorem lS {w w1:World} {g:Nat} {o:Obj} {row:Option Nat} (h:w.heap[g]?=some o) (hg:w.grownBy w1 row) (hne:some g≠row):w1.heap[g]?=some o:=(hg.block g (eP h) hne).trans h
section
variable {P:Program} {ops:Array Oper} {o:Oper} {a:Act} {Q:Exit→Act→World→Prop} {K:Act→World→Prop}
theorem sU {w0 W:World} (base:Nat) (hw:Region.wanted o (yielded ops a.tmps)=true) (s x:Operand) (t e:TypeId) (z:Value) (size bytes:Nat)
  (ho:o.op=.call {callee:=.builtin .append,args:=#[s,x],argTypes:=#[t,t]})
  (ht:P.underlying t=some (.slice e)) (hinfo:(P.info? e).map (fun i=>(i.zero,i.size,i.bytes))=some (some z,size,bytes)) (hz:z.cells.size=size) (hs0:0<size) (hb0:0<bytes)
  (v:Value) (n:Nat) (xs ys:List Value) (hs:a.eval s=v) (hx:a.eval x=.slice (some ⟨W.heap.size,0,none⟩) 1 1) (hys:ys.length=size) (h1:∀u∈ys,u.oneCell'=true)
  (HO:W.ownsRow base e size v n xs) (HB:Below base w0 W) (hbase:base≤W.heap.size) (hl:(n+1)*bytes≤140737488355328)
  (h:∀v1 w1,w1.ownsRow base e size v1 (n+1) (xs++ys)→Below base w0 w1→W.grownBy w1 v.ownBlock→(v1.ownBlock=v.ownBlock∨∃b,v1.ownBlock=some b∧W.heap.size≤b)→K (a.put o.dst v1) w1) :
  if Region.wanted o (yielded ops a.tmps)=true then Oper.wp P o a (W.alloc (.cells ys.toArray e)) K Q else K (a.put o.dst undef) (W.alloc (.cells ys.toArray e)):=by
 obtain⟨i0,hi,hzz⟩:=Option.map_eq_some_iff.1 hinfo
 simp only[Prod.mk.injEq]at hzz
 obtain⟨hz0,hz1,hz2⟩:=hzz
 have hlen:n+1≤140737488355328:=Nat.le_trans (Nat.le_mul_of_pos_right _ hb0) hl
 rw[if_pos hw]
 obtain⟨v1,w1,hr,hown,hg,_,hat⟩:=run_append_own_at (P:=P) (W.alloc (.cells ys.toArray e)) base t o.type e i0 z size bytes ht hi hz0 hz1 hz2 hz hs0 v n xs (HO.alloc _) ⟨W.heap.size,0,none⟩ 1 1 ys (by rw[hys];simp)
  (by simpa using World.news_of_block (cs:=ys.toArray) (t:=e) (fr:=(0,0)) (heap_alloc_new W (.cells ys.toArray e))) h1 (by simp only[maxLen];omega) hl (by simp;omega)
 unfold Oper.wp execOp
 simp only[ho,resolve,invoke,builtin,Sem.run_bind,Sem.run_pure,Result.andThen_ok,List.map_toArray,List.map_cons,List.map_nil,hs,hx,hr]
 refine h v1 w1 hown ((HB.alloc hbase _).grown hg (by simp;omega) (rE HO)) (World.grownBy.trans (World.grownBy_alloc W _ _) hg) ?_
 rcases hat with hat|hat
 ·exact .inl hat
 ·exact .inr ⟨_,hat,by simp⟩
end
theorem TM {w:World} {base base':Nat} {e:TypeId} {size n:Nat} {v:Value} {xs:List Value} (h:w.ownsRow base e size v n xs) (hb:base'≤base):w.ownsRow base' e size v n xs:=by
 obtain⟨h1,h2⟩:=h
 refine⟨h1,?_⟩
 rcases h2 with h2|⟨g,cap,cur,rfl,hg,r⟩
 ·exact .inl h2
 ·exact .inr ⟨g,cap,cur,rfl,Nat.le_trans hb hg,r⟩
section
variable {α:Type} {enc:α→Value} {d:α}
def fB (enc:α→Value) (xs:List α):List Value:=xs.map enc
theorem OG (xs:List α):(fB enc xs).length=xs.length:=by simp[fB]
end
section
variable {α:Type} {P:Program} {ops:Array Oper} {rest:List Oper} {o:Oper} {a:Act} {Q:Exit→Act→World→Prop}
end
theorem fH {w:World} {g:Nat} {o:Obj} (h:w.heap[g]?=some o) (o':Obj):(w.alloc o').heap[g]?=some o:=(kN w o' g (eP h)).trans h
theorem jk {w:World} {g:Nat} {o:Obj} (h:w.heap[g]?=some o):w.drew.heap[g]?=some o:=h
theorem I9 {w:World} {g:Nat} {o:Obj} (h:w.heap[g]?=some o) (n:Nat):(w.drewN n).heap[g]?=some o:=h
theorem bM {w w1:World} {g:Nat} {o:Obj} (h:w.heap[g]?=some o) (hb:Below w.heap.size w w1):w1.heap[g]?=some o:=(hb.block g (eP h)).trans h
theorem aV (w:World) (o:Obj):(w.alloc o).heap[w.heap.size]?=some o:=heap_alloc_new w o
section
variable {P:Program}
end
theorem aja {w:World} {base n m c size:Nat} {e:TypeId} {A:Option Addr} {xs:List Value} (h:w.ownsRow base e size (.slice A m c) n xs):m≤c:=by
 rcases h.2 with ⟨he,_⟩|⟨g,cap,cur,he,_,_,hnc,_⟩
 ·injection he with _ h2 h3
  omega
 ·injection he with _ h2 h3
  omega
def fG {α:Type} (R:α→List Value→Prop) (e:TypeId) (size:Nat) (w:World) (base:Nat) (v:Value) (ps:List α):Prop :=
 ∃inner,w.ownsRow base e size v ps.length inner∧qG R size ps inner
section
variable {α:Type} {R R':α→List Value→Prop} {e:TypeId} {size:Nat} {w w1:World} {base:Nat} {v:Value} {ps:List α}
theorem fG.none_ (R:α→List Value→Prop) (e:TypeId) (size:Nat) (w:World) (base:Nat):fG R e size w base (.slice none 0 0) []:=⟨[],af7 _ _ _ _,qG.none _ _⟩
theorem fG.AZ (h:fG R e size w base v ps) (hR:∀p c,R p c→R' p c):fG R' e size w base v ps:=by
 obtain⟨inner,ho,hr⟩:=h
 exact⟨inner,ho,hr.AZ hR⟩
theorem fG.reads (h:fG R e size w base v ps):∃A c,v=.slice A ps.length c∧ps.length≤c∧mJ R size w A ps.length ps:=by
 obtain⟨inner,ho,hr⟩:=h
 obtain⟨A,c,rfl,hrow⟩:=Ir ho hr rfl
 exact⟨A,c,rfl,aja ho,hrow⟩
theorem fG.acy (h:fG R e size w base v ps) {g:Nat} {t:TypeId} {cells:Array Value} (hb:w.heap[g]?=some (.cells cells t (0,0))) (ht:e≠t):some g≠v.ownBlock:=by
 obtain⟨inner,ho,hr⟩:=h
 exact acE ho hb ht
end
section
variable {P:Program} {ops:Array Oper} {rest:List Oper} {o:Oper} {a:Act} {Q:Exit→Act→World→Prop} {α:Type} {R:α→List Value→Prop}
end
section
variable {P:Program} {ops:Array Oper} {o:Oper} {a:Act} {Q:Exit→Act→World→Prop} {K:Act→World→Prop} {α:Type} {R:α→List Value→Prop}
end
section
variable {α:Type} {P:Program}
end
section
variable {P:Program} {ops:Array Oper} {rest:List Oper} {o:Oper} {a:Act} {Q:Exit→Act→World→Prop}
end
structure Kd (α:Type) where
 sz:Nat
 E:List Nat
 K:World→α→List Value→Prop
 M:World→Nat→(Nat→Prop)→α→List Value→Prop
 qB:∀{w x cs},K w x cs→cs.length=sz
 qU:∀{w x cs},K w x cs→∀u∈cs,u.oneCell'=true
 mX:∀{w w1:World} {x cs},Below w.heap.size w w1→K w x cs→K w1 x cs
 jW:∀{w base ok x cs},M w base ok x cs→K w x cs
 jX:∀{w base ok ok' x cs},(∀k,ok k→ok' k)→M w base ok x cs→M w base ok' x cs
 jT:∀{w:World} {base ok x cs},M w base ok x cs→M w base (fun k=>ok k∧base≤k∧k<w.heap.size∧∃q,q∈E∧∃cells,w.heap[k]?=some (.cells cells q (0,0))) x cs
 oq:∀{w w1:World} {base ok x cs},(∀k,ok k→w1.heap[k]?=w.heap[k]?)→M w base ok x cs→M w1 base ok x cs
 mZ:∀{w base base' ok x cs},base'≤base→M w base ok x cs→M w base' ok x cs
theorem PX {w w1:World} {base:Nat} {e:TypeId} {size n:Nat} {v:Value} {xs:List Value} (h:w.ownsRow base e size v n xs) (hm:∀k,v.ownBlock=some k→w1.heap[k]?=w.heap[k]?):w1.ownsRow base e size v n xs:=by
 obtain⟨h1,h2⟩:=h
 refine⟨h1,?_⟩
 rcases h2 with h2|⟨g,cap,cur,rfl,hg,hh,r⟩
 ·exact .inl h2
 ·exact .inr ⟨g,cap,cur,rfl,hg,(hm g (by simp[Value.ownBlock])).trans hh,r⟩
theorem Jv {w:World} {base:Nat} {e:TypeId} {size n:Nat} {v:Value} {xs:List Value} (h:w.ownsRow base e size v n xs) (k:Nat) (hk:v.ownBlock=some k):∃cells,w.heap[k]?=some (.cells cells e (0,0)):=by
 rcases h.2 with ⟨rfl,_⟩|⟨g,cap,cur,rfl,hg,hh,r⟩
 ·simp[Value.ownBlock]at hk
 ·have:g=k:=by simpa[Value.ownBlock]using hk
  subst this
  exact⟨cur,hh⟩
namespace Kd
def C {α:Type} (d:Kd α) (w:World) (A:Option Addr) (n:Nat) (xs:List α):Prop:=mJ (d.K w) d.sz w A n xs
def R {α:Type} (d:Kd α) (e:Nat) (w:World) (base:Nat) (ok:Nat→Prop) (v:Value) (xs:List α):Prop :=
 (∀k,v.ownBlock=some k→ok k)∧fG (d.M w base (fun k=>ok k∧some k≠v.ownBlock)) e d.sz w base v xs
section
variable {α:Type} {d:Kd α} {e:Nat} {w w1:World} {base:Nat} {ok ok':Nat→Prop} {v:Value} {xs:List α}
theorem bQ {A:Option Addr} {n:Nat} (h:d.C w A n xs) (hb:Below w.heap.size w w1):d.C w1 A n xs:=mJ.AZ h hb (fun _ _ hp=>d.mX hb hp)
theorem aad (d:Kd α) (e:Nat) (w:World) (base:Nat) (ok:Nat→Prop):d.R e w base ok (.slice none 0 0) []:=⟨fun k hk=>by simp[Value.ownBlock]at hk,fG.none_ _ _ _ _ _⟩
theorem gX (h:d.R e w base ok v xs) (hok:∀k,ok k→ok' k):d.R e w base ok' v xs:=⟨fun k hk=>hok k (h.1 k hk),h.2.AZ (fun _ _ hp=>d.jX (fun k hk=>⟨hok k hk.1,hk.2⟩) hp)⟩
theorem rW (h:d.R e w base ok v xs):d.R e w base (fun k=>ok k∧base≤k∧k<w.heap.size∧∃q,q∈e::d.E∧∃cells,w.heap[k]?=some (.cells cells q (0,0))) v xs:=by
 obtain⟨h0,inner,ho,hr⟩:=h
 refine⟨fun k hk=>?_,inner,ho,hr.AZ (fun _ _ hp=>d.jX (fun k hk=>?_) (d.jT hp))⟩
 ·obtain⟨cells,hc⟩:=Jv ho k hk
  exact⟨h0 k hk,rE ho k hk,TJ ho k hk,e,List.mem_cons_self,cells,hc⟩
 ·obtain⟨⟨h1,h2⟩,h3,h4,q,hq,hc⟩:=hk
  exact⟨⟨h1,h3,h4,q,List.mem_cons_of_mem _ hq,hc⟩,h2⟩
theorem J_ (h:d.R e w base ok v xs) (hm:∀k,ok k→w1.heap[k]?=w.heap[k]?):d.R e w1 base ok v xs:=by
 obtain⟨h0,inner,ho,hr⟩:=h
 exact⟨h0,inner,PX ho (fun k hk=>hm k (h0 k hk)),hr.AZ (fun _ _ hp=>d.oq (fun k hk=>hm k hk.1) hp)⟩
theorem qF {base':Nat} (h:d.R e w base ok v xs) (hb:base'≤base):d.R e w base' ok v xs:=by
 obtain⟨h0,inner,ho,hr⟩:=h
 exact⟨h0,inner,TM ho hb,hr.AZ (fun _ _ hp=>d.mZ hb hp)⟩
theorem QS (h:d.R e w base ok v xs) (hm:∀k,ok k→k<w.heap.size→w1.heap[k]?=w.heap[k]?):d.R e w1 base ok v xs :=
 gX (J_ (rW h) (fun k hk=>hm k hk.1 hk.2.2.1)) (fun _ hk=>hk.1)
theorem Z4 {x:α} {cs:List Value} (h:d.M w base ok x cs) (hm:∀k,ok k→k<w.heap.size→w1.heap[k]?=w.heap[k]?):d.M w1 base ok x cs :=
 d.jX (fun _ hk=>hk.1) (d.oq (fun k hk=>hm k hk.1 hk.2.2.1) (d.jT h))
theorem uX (h:d.R e w base ok v xs) (hb:Below w.heap.size w w1):d.R e w1 base ok v xs:=QS h (fun k _ hk=>hb.block k hk)
theorem ad9 {x:α} {cs:List Value} (h:d.M w base ok x cs) (hb:Below w.heap.size w w1):d.M w1 base ok x cs:=Z4 h (fun k _ hk=>hb.block k hk)
theorem fZ (h:d.R e w base ok v xs) {p:Addr} (hok:∀k,ok k→k≠p.block) (u:Value):d.R e (w.setCell p u) base ok v xs:=QS h (fun k ho _=>ku w p u k (hok k ho))
theorem pY (h:d.R e w base ok v xs) {g t:Nat} {cells:Array Value} (hb:w.heap[g]?=some (.cells cells t (0,0))) (ht:∀q,q∈e::d.E→q≠t):d.R e w base (fun k=>ok k∧k≠g) v xs :=
 gX (rW h) (fun k hk=>⟨hk.1,by
  obtain⟨_,_,_,q,hq,cells',hc⟩:=hk
  rintro rfl
  rw[hc]at hb
  injection hb with hb
  injection hb with _ hb
  exact ht q hq hb⟩)
theorem rX (h:d.R e w base ok v xs):∃A c,v=.slice A xs.length c∧xs.length≤c∧d.C w A xs.length xs:=by
 obtain⟨A,c,he,hl,hr⟩:=fG.reads h.2
 exact⟨A,c,he,hl,hr.AZ jc (fun _ _ hp=>d.jW hp)⟩
theorem oz (h:d.R e w base ok v xs):∃A c,v=.slice A xs.length c:=by
 obtain⟨A,c,he,_⟩:=rX h
 exact⟨A,c,he⟩
theorem Uz (h:d.R e w base ok v xs):∃inner,w.ownsRow base e d.sz v xs.length inner:=by
 obtain⟨_,inner,ho,_⟩:=h
 exact⟨inner,ho⟩
theorem QN (h:d.R e w base ok v xs) {g t:Nat} {cells:Array Value} (hb:w.heap[g]?=some (.cells cells t (0,0))) (ht:e≠t):some g≠v.ownBlock:=fG.acy h.2 hb ht
end
def scalar {α:Type} (enc:α→Value) (h1:∀x,(enc x).oneCell'=true):Kd α where
 sz:=1
 E:=[]
 K:=fun _ x cs=>cs=[enc x]
 M:=fun _ _ _ x cs=>cs=[enc x]
 qB:=fun h=>by rw[h];rfl
 qU:=fun h u hu=>by
  rw[h]at hu
  rw[List.mem_singleton.1 hu]
  exact h1 _
 mX:=fun _ h=>h
 jW:=fun h=>h
 jX:=fun _ h=>h
 jT:=fun h=>h
 oq:=fun _ h=>h
 mZ:=fun _ h=>h
def int (k:IntKind):Kd Int:=scalar (Value.int k) (fun _=>rfl)
def string:Kd bG:=scalar Value.string (fun _=>rfl)
def slice {α:Type} (e:Nat) (d:Kd α):Kd (List α) where
 sz:=1
 E:=e::d.E
 K:=fun w xs cs=>∃A c,cs=[.slice A xs.length c]∧xs.length≤c∧d.C w A xs.length xs
 M:=fun w base ok xs cs=>∃v,cs=[v]∧d.R e w base ok v xs
 qB:=by
  rintro w x cs ⟨A,c,rfl,_⟩
  rfl
 qU:=by
  rintro w x cs ⟨A,c,rfl,_⟩ u hu
  rw[List.mem_singleton.1 hu]
  rfl
 mX:=by
  rintro w w1 x cs hb ⟨A,c,rfl,hl,hr⟩
  exact⟨A,c,rfl,hl,bQ hr hb⟩
 jW:=by
  rintro w base ok x cs ⟨v,rfl,h⟩
  obtain⟨A,c,rfl,hl,hr⟩:=rX h
  exact⟨A,c,rfl,hl,hr⟩
 jX:=by
  rintro w base ok ok' x cs hok ⟨v,rfl,h⟩
  exact⟨v,rfl,gX h hok⟩
 jT:=by
  rintro w base ok x cs ⟨v,rfl,h⟩
  exact⟨v,rfl,rW h⟩
 oq:=by
  rintro w w1 base ok x cs hm ⟨v,rfl,h⟩
  exact⟨v,rfl,J_ h hm⟩
 mZ:=by
  rintro w base base' ok x cs hb ⟨v,rfl,h⟩
  exact⟨v,rfl,qF h hb⟩
def pair {α β:Type} (a:Kd α) (b:Kd β):Kd (α×β) where
 sz:=a.sz+b.sz
 E:=a.E++b.E
 K:=fun w x cs=>∃c0 c1,cs=c0++c1∧a.K w x.1 c0∧b.K w x.2 c1
 M:=fun w base ok x cs=>∃c0 c1,cs=c0++c1∧a.M w base ok x.1 c0∧b.M w base ok x.2 c1
 qB:=by
  rintro w x cs ⟨c0,c1,rfl,h0,h1⟩
  rw[dY,a.qB h0,b.qB h1]
 qU:=by
  rintro w x cs ⟨c0,c1,rfl,h0,h1⟩ u hu
  rcases List.mem_append.1 hu with hu|hu
  ·exact a.qU h0 u hu
  ·exact b.qU h1 u hu
 mX:=by
  rintro w w1 x cs hb ⟨c0,c1,rfl,h0,h1⟩
  exact⟨c0,c1,rfl,a.mX hb h0,b.mX hb h1⟩
 jW:=by
  rintro w base ok x cs ⟨c0,c1,rfl,h0,h1⟩
  exact⟨c0,c1,rfl,a.jW h0,b.jW h1⟩
 jX:=by
  rintro w base ok ok' x cs hok ⟨c0,c1,rfl,h0,h1⟩
  exact⟨c0,c1,rfl,a.jX hok h0,b.jX hok h1⟩
 jT:=by
  rintro w base ok x cs ⟨c0,c1,rfl,h0,h1⟩
  refine⟨c0,c1,rfl,a.jX ?_ (a.jT h0),b.jX ?_ (b.jT h1)⟩
  ·rintro k ⟨h2,h3,h4,q,hq,hc⟩
   exact⟨h2,h3,h4,q,List.mem_append_left _ hq,hc⟩
  ·rintro k ⟨h2,h3,h4,q,hq,hc⟩
   exact⟨h2,h3,h4,q,List.mem_append_right _ hq,hc⟩
 oq:=by
  rintro w w1 base ok x cs hm ⟨c0,c1,rfl,h0,h1⟩
  exact⟨c0,c1,rfl,a.oq hm h0,b.oq hm h1⟩
 mZ:=by
  rintro w base base' ok x cs hb ⟨c0,c1,rfl,h0,h1⟩
  exact⟨c0,c1,rfl,a.mZ hb h0,b.mZ hb h1⟩
def iso {α β:Type} (d:Kd α) (f:β→α):Kd β where
 sz:=d.sz
 E:=d.E
 K:=fun w x cs=>d.K w (f x) cs
 M:=fun w base ok x cs=>d.M w base ok (f x) cs
 qB:=d.qB
 qU:=d.qU
 mX:=d.mX
 jW:=d.jW
 jX:=d.jX
 jT:=d.jT
 oq:=d.oq
 mZ:=d.mZ
def bot {α:Type} (sz:Nat) (E:List Nat):Kd α where
 sz:=sz
 E:=E
 K:=fun _ _ _=>False
 M:=fun _ _ _ _ _=>False
 qB:=fun h=>h.elim
 qU:=fun h=>h.elim
 mX:=fun _ h=>h
 jW:=fun h=>h
 jX:=fun _ h=>h
 jT:=fun h=>h
 oq:=fun _ h=>h
 mZ:=fun _ h=>h
def upto {α:Type} (F:Kd α→Kd α) (sz:Nat) (E:List Nat):Nat→Kd α
 |0=>bot sz E
 |n+1=>F (upto F sz E n)
def fix {α:Type} (F:Kd α→Kd α) (sz:Nat) (E:List Nat) (hs:∀n,(upto F sz E n).sz=sz) (hE:∀n q,q∈(upto F sz E n).E→q∈E):Kd α where
 sz:=sz
 E:=E
 K:=fun w x cs=>∃n,(upto F sz E n).K w x cs
 M:=fun w base ok x cs=>∃n,(upto F sz E n).M w base ok x cs
 qB:=by
  rintro w x cs ⟨n,h⟩
  rw[(upto F sz E n).qB h,hs n]
 qU:=by
  rintro w x cs ⟨n,h⟩
  exact(upto F sz E n).qU h
 mX:=by
  rintro w w1 x cs hb ⟨n,h⟩
  exact⟨n,(upto F sz E n).mX hb h⟩
 jW:=by
  rintro w base ok x cs ⟨n,h⟩
  exact⟨n,(upto F sz E n).jW h⟩
 jX:=by
  rintro w base ok ok' x cs hok ⟨n,h⟩
  exact⟨n,(upto F sz E n).jX hok h⟩
 jT:=by
  rintro w base ok x cs ⟨n,h⟩
  refine⟨n,(upto F sz E n).jX ?_ ((upto F sz E n).jT h)⟩
  rintro k ⟨h2,h3,h4,q,hq,hc⟩
  exact⟨h2,h3,h4,q,hE n q hq,hc⟩
 oq:=by
  rintro w w1 base ok x cs hm ⟨n,h⟩
  exact⟨n,(upto F sz E n).oq hm h⟩
 mZ:=by
  rintro w base base' ok x cs hb ⟨n,h⟩
  exact⟨n,(upto F sz E n).mZ hb h⟩
theorem DJ {α:Type} {d:Kd α} {w:World} {A:Option Addr} {n:Nat} {xs:List α} (h:d.C w A n xs) (z:α) (i:Int) (h0:0≤i) (h1:i<n) :
 ∃ad c,A=some ad∧c.length=d.sz∧d.K w (xs.getD i.toNat z) c∧∀j u,c[j]?=some u→w.cell? (ad.add (i.toNat*d.sz+j))=some u:=mJ.aqe h z i h0 h1
theorem EZ {α:Type} {d:Kd α} {e base:Nat} {ok iR:Nat→Prop} {W w1:World} {v v1:Value} {xs:List α} {p:α} {inner cs:List Value} (h0:∀k,v.ownBlock=some k→ok k) (hr:qG (d.M W base (fun k=>ok k∧some k≠v.ownBlock)) d.sz xs inner) (hp:d.M W base iR p cs) (Lh:∀k,iR k→ok k∧some k≠v.ownBlock) (hfresh:∀k,W.heap.size≤k→ok k)
  (hown:w1.ownsRow base e d.sz v1 (xs.length+1) (inner++cs)) (hg:W.grownBy w1 v.ownBlock) (hat:v1.ownBlock=v.ownBlock∨∃b,v1.ownBlock=some b∧W.heap.size≤b):d.R e w1 base ok v1 (xs++[p]):=by
 have hne:∀k,some k≠v.ownBlock→k<W.heap.size→some k≠v1.ownBlock:=by
  intro k hk hlt
  rcases hat with hat|⟨b,hb,hle⟩
  ·rw[hat];exact hk
  ·rw[hb]
   intro he
   injection he with he
   omega
 have step:∀{q:α} {c:List Value} {o:Nat→Prop},d.M W base o q c→(∀k,o k→ok k∧some k≠v.ownBlock)→d.M w1 base (fun k=>ok k∧some k≠v1.ownBlock) q c:=by
  intro q c o hq ho
  have h1:=d.oq (w1:=w1) (fun k hk=>hg.block k hk.2.2.1 (ho k hk.1).2) (d.jT hq)
  exact d.jX (fun k hk=>⟨(ho k hk.1).1,hne k (ho k hk.1).2 hk.2.2.1⟩) h1
 refine⟨fun k hk=>?_,inner++cs,by rw[dY,List.length_singleton];exact hown,?_⟩
 ·rcases hat with hat|⟨b,hb,hle⟩
  ·exact h0 k (hat▸hk)
  ·rw[hb]at hk
   injection hk with hk
   exact hfresh k (by omega)
 ·exact(hr.AZ (fun _ _ hq=>step hq (fun _ hk=>hk))).snoc (step hp Lh) (d.qB (d.jW hp))
section
variable {P:Program} {ops:Array Oper} {rest:List Oper} {o:Oper} {a:Act} {Q:Exit→Act→World→Prop} {α:Type}
theorem zF (d:Kd α) {w0 W:World} (base:Nat) (hgd:o.guard=none) (s x:Operand) (t e:TypeId) (z:Value) (bytes:Nat)
  (ho:o.op=.call {callee:=.builtin .append,args:=#[s,x],argTypes:=#[t,t]})
  (ht:P.underlying t=some (.slice e)) (hinfo:(P.info? e).map (fun i=>(i.zero,i.size,i.bytes))=some (some z,d.sz,bytes)) (hz:z.cells.size=d.sz) (hs0:0<d.sz) (hb0:0<bytes)
  (v:Value) (xs:List α) (p:α) (cs:List Value) (ok iR:Nat→Prop) (hs:a.eval s=v) (hx:a.eval x=.slice (some ⟨W.heap.size,0,none⟩) 1 1) (hp:d.M W base iR p cs) (Lh:∀k,iR k→ok k∧some k≠v.ownBlock) (hfresh:∀k,W.heap.size≤k→ok k)
  (HO:d.R e W base ok v xs) (HB:Below base w0 W) (hbase:base≤W.heap.size) (hl:(xs.length+1)*bytes≤140737488355328)
  (h:∀v1 w1,d.R e w1 base ok v1 (xs++[p])→Below base w0 w1→W.grownBy w1 v.ownBlock→(v1.ownBlock=v.ownBlock∨∃b,v1.ownBlock=some b∧W.heap.size≤b)→wpList P ops Q rest (a.put o.dst v1) w1) :
  wpList P ops Q (o::rest) a (W.alloc (.cells cs.toArray e)):=by
 obtain⟨h0,inner,hown,hr⟩:=HO
 refine zh base hgd s x t e z d.sz bytes ho ht hinfo hz hs0 hb0 v xs.length inner cs hs hx (d.qB (d.jW hp)) (d.qU (d.jW hp)) hown HB hbase hl ?_
 intro v1 w1 hown1 hb1 hg1 abw
 exact h v1 w1 (EZ h0 hr hp Lh hfresh hown1 hg1 abw) hb1 hg1 abw
end
section
variable {P:Program} {ops:Array Oper} {o:Oper} {a:Act} {Q:Exit→Act→World→Prop} {Kc:Act→World→Prop} {α:Type}
theorem yF (d:Kd α) {w0 W:World} (base:Nat) (hw:Region.wanted o (yielded ops a.tmps)=true) (s x:Operand) (t e:TypeId) (z:Value) (bytes:Nat)
  (ho:o.op=.call {callee:=.builtin .append,args:=#[s,x],argTypes:=#[t,t]})
  (ht:P.underlying t=some (.slice e)) (hinfo:(P.info? e).map (fun i=>(i.zero,i.size,i.bytes))=some (some z,d.sz,bytes)) (hz:z.cells.size=d.sz) (hs0:0<d.sz) (hb0:0<bytes)
  (v:Value) (xs:List α) (p:α) (cs:List Value) (ok iR:Nat→Prop) (hs:a.eval s=v) (hx:a.eval x=.slice (some ⟨W.heap.size,0,none⟩) 1 1) (hp:d.M W base iR p cs) (Lh:∀k,iR k→ok k∧some k≠v.ownBlock) (hfresh:∀k,W.heap.size≤k→ok k)
  (HO:d.R e W base ok v xs) (HB:Below base w0 W) (hbase:base≤W.heap.size) (hl:(xs.length+1)*bytes≤140737488355328)
  (h:∀v1 w1,d.R e w1 base ok v1 (xs++[p])→Below base w0 w1→W.grownBy w1 v.ownBlock→(v1.ownBlock=v.ownBlock∨∃b,v1.ownBlock=some b∧W.heap.size≤b)→Kc (a.put o.dst v1) w1) :
  if Region.wanted o (yielded ops a.tmps)=true then Oper.wp P o a (W.alloc (.cells cs.toArray e)) Kc Q else Kc (a.put o.dst undef) (W.alloc (.cells cs.toArray e)):=by
 obtain⟨h0,inner,hown,hr⟩:=HO
 refine sU base hw s x t e z d.sz bytes ho ht hinfo hz hs0 hb0 v xs.length inner cs hs hx (d.qB (d.jW hp)) (d.qU (d.jW hp)) hown HB hbase hl ?_
 intro v1 w1 hown1 hb1 hg1 abw
 exact h v1 w1 (EZ h0 hr hp Lh hfresh hown1 hg1 abw) hb1 hg1 abw
end
theorem PY {α:Type} {enc:α→Value} {h1:∀x,(enc x).oneCell'=true} {e:Nat} {w:World} {base:Nat} {ok:Nat→Prop} {v:Value} {xs:List α} (h:(scalar enc h1).R e w base ok v xs):w.ownsRow base e 1 v xs.length (fB enc xs):=by
 obtain⟨_,inner,ho,hr⟩:=h
 have:inner=fB enc xs:=by
  apply List.ext_getElem?
  intro j
  rcases Nat.lt_or_ge j xs.length with hj|hj
  ·have h2:=hr.2 j _ (gQ hj)
   have hl:j<inner.length:=by have:=hr.1;simp[scalar]at this;omega
   have h3:(inner.drop (j*1)).take 1=[enc xs[j]]:=h2
   rw[Nat.mul_one,List.drop_eq_getElem_cons hl]at h3
   have h4:inner[j]=enc xs[j]:=by
    have h5:=congrArg List.head? h3
    rw[List.take_succ_cons]at h5
    exact dU h5
   rw[gQ hl,h4]
   simp[fB,gQ hj]
  ·have h3:inner.length=xs.length:=by have:=hr.1;simp[scalar]at this;omega
   rw[List.getElem?_eq_none (by omega),List.getElem?_eq_none (by rw[OG];omega)]
 rw[←this]
 exact ho
end Kd
namespace Kd
structure uV {α β:Type} (F:Kd α→Kd β):Prop where
 sz:∀d d':Kd α,d.sz=d'.sz→(F d).sz=(F d').sz
 K:∀d d':Kd α,d.sz=d'.sz→(∀w x cs,d.K w x cs→d'.K w x cs)→∀w x cs,(F d).K w x cs→(F d').K w x cs
 M:∀d d':Kd α,d.sz=d'.sz→(∀w base ok x cs,d.M w base ok x cs→d'.M w base ok x cs)→∀w base ok x cs,(F d).M w base ok x cs→(F d').M w base ok x cs
theorem pR {α β:Type} (k:Kd β):uV (fun _:Kd α=>k):=⟨fun _ _ _=>rfl,fun _ _ _ _ _ _ _ h=>h,fun _ _ _ _ _ _ _ _ _ h=>h⟩
theorem WZ {α:Type}:uV (fun d:Kd α=>d):=⟨fun _ _ h=>h,fun _ _ _ h=>h,fun _ _ _ h=>h⟩
theorem ZK {α:Type} {d d':Kd α} (hs:d.sz=d'.sz) (h:∀w x cs,d.K w x cs→d'.K w x cs) {w:World} {A:Option Addr} {n:Nat} {xs:List α} (hc:d.C w A n xs):d'.C w A n xs:=by
 unfold C at hc ⊢
 rw[←hs]
 exact hc.AZ jc (fun _ _ hp=>h _ _ _ hp)
theorem agT {α:Type} {d d':Kd α} (hs:d.sz=d'.sz) (h:∀w base ok x cs,d.M w base ok x cs→d'.M w base ok x cs) {e:Nat} {w:World} {base:Nat} {ok:Nat→Prop} {v:Value} {xs:List α} (hr:d.R e w base ok v xs):d'.R e w base ok v xs:=by
 unfold R at hr ⊢
 rw[←hs]
 exact⟨hr.1,hr.2.AZ (fun _ _ hp=>h _ _ _ _ _ hp)⟩
theorem Gz {α β:Type} (e:Nat) {G:Kd α→Kd β} (hG:uV G):uV (fun d=>slice e (G d)):=by
 refine⟨fun _ _ _=>rfl,?_,?_⟩
 ·rintro d d' hs h w x cs ⟨A,c,rfl,hl,hr⟩
  exact⟨A,c,rfl,hl,ZK (hG.sz d d' hs) (hG.K d d' hs h) hr⟩
 ·rintro d d' hs h w base ok x cs ⟨v,rfl,hr⟩
  exact⟨v,rfl,agT (hG.sz d d' hs) (hG.M d d' hs h) hr⟩
theorem qO {α β γ:Type} {G:Kd α→Kd β} {H:Kd α→Kd γ} (hG:uV G) (hH:uV H):uV (fun d=>pair (G d) (H d)):=by
 refine⟨fun d d' hs=>?_,?_,?_⟩
 ·show(G d).sz+(H d).sz=(G d').sz+(H d').sz
  rw[hG.sz d d' hs,hH.sz d d' hs]
 ·rintro d d' hs h w x cs ⟨c0,c1,rfl,h0,h1⟩
  exact⟨c0,c1,rfl,hG.K d d' hs h _ _ _ h0,hH.K d d' hs h _ _ _ h1⟩
 ·rintro d d' hs h w base ok x cs ⟨c0,c1,rfl,h0,h1⟩
  exact⟨c0,c1,rfl,hG.M d d' hs h _ _ _ _ _ h0,hH.M d d' hs h _ _ _ _ _ h1⟩
theorem PL {α β γ:Type} {G:Kd α→Kd β} (f:γ→β) (hG:uV G):uV (fun d=>iso (G d) f) :=
 ⟨hG.sz,fun d d' hs h w x cs=>hG.K d d' hs h w (f x) cs,fun d d' hs h w base ok x cs=>hG.M d d' hs h w base ok (f x) cs⟩
def Sub {α β:Type} (F:Kd α→Kd β) (E:List Nat):Prop:=∀d:Kd α,(∀q,q∈d.E→q∈E)→∀q,q∈(F d).E→q∈E
theorem sub_const {α β:Type} {E:List Nat} (k:Kd β) (h:∀q,q∈k.E→q∈E):Sub (fun _:Kd α=>k) E:=fun _ _=>h
theorem ac3 {α:Type} {E:List Nat}:Sub (fun d:Kd α=>d) E:=fun _ h=>h
theorem JF {α β:Type} {E:List Nat} (e:Nat) {G:Kd α→Kd β} (he:e∈E) (hG:Sub G E):Sub (fun d=>slice e (G d)) E:=fun d h q hq=>by
 rcases List.mem_cons.1 hq with rfl|hq
 ·exact he
 ·exact hG d h q hq
theorem uO {α β γ:Type} {E:List Nat} {G:Kd α→Kd β} {H:Kd α→Kd γ} (hG:Sub G E) (hH:Sub H E):Sub (fun d=>pair (G d) (H d)) E:=fun d h q hq=>by
 rcases List.mem_append.1 hq with hq|hq
 ·exact hG d h q hq
 ·exact hH d h q hq
theorem Xj {α β γ:Type} {E:List Nat} {G:Kd α→Kd β} (f:γ→β) (hG:Sub G E):Sub (fun d=>iso (G d) f) E:=hG
theorem Uh {α:Type} {F:Kd α→Kd α} {sz:Nat} {E:List Nat} (h:Sub F E):∀n q,q∈(upto F sz E n).E→q∈E
 |0,_,hq=>hq
 |n+1,q,hq=>h _ (Uh h n) q hq
theorem Xn {α:Type} {F:Kd α→Kd α} {sz:Nat} {E:List Nat} (h:∀d:Kd α,(F d).sz=sz):∀n,(upto F sz E n).sz=sz
 |0=>rfl
 | _+1=>h _
section
variable {α:Type} {F:Kd α→Kd α} {sz:Nat} {E:List Nat} {hs:∀n,(upto F sz E n).sz=sz} {hE:∀n q,q∈(upto F sz E n).E→q∈E}
theorem adp (hm:uV F) (hs:∀n,(upto F sz E n).sz=sz):∀n {w x cs},(upto F sz E n).K w x cs→(upto F sz E (n+1)).K w x cs
 |0,_,_,_,h=>h.elim
 |n+1,_,_,_,h=>hm.K _ _ (by rw[hs n,hs (n+1)]) (fun _ _ _ hk=>adp hm hs n hk) _ _ _ h
theorem adq (hm:uV F) (hs:∀n,(upto F sz E n).sz=sz):∀n {w base ok x cs},(upto F sz E n).M w base ok x cs→(upto F sz E (n+1)).M w base ok x cs
 |0,_,_,_,_,_,h=>h.elim
 |n+1,_,_,_,_,_,h=>hm.M _ _ (by rw[hs n,hs (n+1)]) (fun _ _ _ _ _ hk=>adq hm hs n hk) _ _ _ _ _ h
theorem JK (hm:uV F) (hs:∀n,(upto F sz E n).sz=sz) {n m:Nat} (hnm:n≤m) {w x cs} (h:(upto F sz E n).K w x cs):(upto F sz E m).K w x cs:=by
 obtain⟨j,rfl⟩:=Nat.exists_eq_add_of_le hnm
 induction j with
 |zero=>exact h
 |succ j ih=>exact adp hm hs _ (ih (by omega))
theorem JL (hm:uV F) (hs:∀n,(upto F sz E n).sz=sz) {n m:Nat} (hnm:n≤m) {w base ok x cs} (h:(upto F sz E n).M w base ok x cs):(upto F sz E m).M w base ok x cs:=by
 obtain⟨j,rfl⟩:=Nat.exists_eq_add_of_le hnm
 induction j with
 |zero=>exact h
 |succ j ih=>exact adq hm hs _ (ih (by omega))
theorem ag6 {n:Nat} {w:World} {A:Option Addr} {m:Nat} {xs:List α} (h:(upto F sz E n).C w A m xs):(fix F sz E hs hE).C w A m xs:=ZK (d':=fix F sz E hs hE) (hs n) (fun w x cs hp=>(⟨n,hp⟩:∃n,(upto F sz E n).K w x cs)) h
theorem bounded {P:Nat→Nat→Prop} (hP:∀n m j,n≤m→P n j→P m j):∀m,(∀j,j<m→∃n,P n j)→∃N,∀j,j<m→P N j
 |0,_=>⟨0,fun j hj=>absurd hj (Nat.not_lt_zero j)⟩
 |m+1,h=>by
  obtain⟨N,hN⟩:=bounded hP m (fun j hj=>h j (by omega))
  obtain⟨n,hn⟩:=h m (by omega)
  refine⟨max N n,fun j hj=>?_⟩
  rcases Nat.lt_or_ge j m with hj'|hj'
  ·exact hP N _ j (Nat.le_max_left _ _) (hN j hj')
  ·have:j=m:=by omega
   subst this
   exact hP n _ j (Nat.le_max_right _ _) hn
theorem MW {α:Type} {R:Nat→α→List Value→Prop} (hR:∀n m p c,n≤m→R n p c→R m p c) {size:Nat} {ps:List α} {cs:List Value} (h:qG (fun p c=>∃n,R n p c) size ps cs):∃N,qG (R N) size ps cs:=by
 obtain⟨N,hN⟩:=bounded (P:=fun n j=>∀p,ps[j]?=some p→R n p ((cs.drop (j*size)).take size)) (fun n m j hnm hp p hj=>hR n m p _ hnm (hp p hj)) ps.length
  (fun j hj=>by
    obtain⟨n,hn⟩:=h.2 j _ (gQ hj)
    refine⟨n,fun p hp=>?_⟩
    rw[gQ hj]at hp
    injection hp with hp
    rw[←hp]
    exact hn)
 exact⟨N,h.1,fun j p hj=>hN j (List.getElem?_eq_some_iff.1 hj).1 p hj⟩
theorem RZ (hm:uV F) {e:Nat} {w:World} {base:Nat} {ok:Nat→Prop} {v:Value} {xs:List α} (h:(fix F sz E hs hE).R e w base ok v xs):∃n,(upto F sz E n).R e w base ok v xs:=by
 obtain⟨h0,inner,ho,hr⟩:=h
 obtain⟨N,hN⟩:=MW (R:=fun n p c=>(upto F sz E n).M w base (fun k=>ok k∧some k≠v.ownBlock) p c) (fun n m p c hnm hp=>JL hm hs hnm hp) hr
 refine⟨N,h0,inner,?_,?_⟩
 ·rw[hs N];exact ho
 ·rw[hs N];exact hN
theorem RY (hm:uV F) {w:World} {A:Option Addr} {m:Nat} {xs:List α} (h:(fix F sz E hs hE).C w A m xs):∃n,(upto F sz E n).C w A m xs:=by
 rcases Nat.eq_zero_or_pos m with hz|hpos
 ·subst hz
  exact⟨0,h.1,h.2.1,fun hp=>absurd hp (Nat.lt_irrefl 0)⟩
 ·obtain⟨ad,e,hc⟩:=h.2.2 hpos
  obtain⟨N,hN⟩:=bounded (P:=fun n j=>∀p,xs[j]?=some p→∃c,c.length=sz∧(upto F sz E n).K w p c∧∀i u,c[i]?=some u→w.cell? (ad.add (j*sz+i))=some u)
   (fun n n' j hnm hp p hj=>by
     obtain⟨c,h1,h2,h3⟩:=hp p hj
     exact⟨c,h1,JK hm hs hnm h2,h3⟩) xs.length
   (fun j hj=>by
     obtain⟨c,h1,⟨n,h2⟩,h3⟩:=hc j _ (gQ hj)
     refine⟨n,fun p hp=>?_⟩
     rw[gQ hj]at hp
     injection hp with hp
     rw[←hp]
     exact⟨c,h1,h2,h3⟩)
  refine⟨N,h.1,h.2.1,fun _=>⟨ad,e,fun j p hj=>?_⟩⟩
  rw[hs N]
  exact hN j (List.getElem?_eq_some_iff.1 hj).1 p hj
theorem Zr (hm:uV F) (hs:∀n,(upto F sz E n).sz=sz) {n m:Nat} (hnm:n≤m) {e:Nat} {w:World} {base:Nat} {ok:Nat→Prop} {v:Value} {xs:List α} (h:(upto F sz E n).R e w base ok v xs):(upto F sz E m).R e w base ok v xs:=agT (by rw[hs n,hs m]) (fun _ _ _ _ _ hp=>JL hm hs hnm hp) h
theorem Zq (hm:uV F) (hs:∀n,(upto F sz E n).sz=sz) {n m:Nat} (hnm:n≤m) {w:World} {A:Option Addr} {l:Nat} {xs:List α} (h:(upto F sz E n).C w A l xs):(upto F sz E m).C w A l xs:=ZK (by rw[hs n,hs m]) (fun _ _ _ hp=>JK hm hs hnm hp) h
end
end Kd
namespace Kd
end Kd
namespace Kd
section
variable {α β:Type} {d:Kd α} {d':Kd β} {e e':Nat} {w w1 W:World} {base b b':Nat} {ok ok' okv oku:Nat→Prop} {v u:Value} {xs:List α} {ys:List β}
theorem kM (h:d.R e w base ok v xs):d.R e w.drew base ok v xs:=uX h (QW jc)
theorem jU (h:d.R e w base ok v xs) (m:Nat):d.R e (w.drewN m) base ok v xs:=uX h (rG jc m)
theorem jE {A:Option Addr} {n:Nat} (h:d.C w A n xs) (o:Obj):d.C (w.alloc o) A n xs:=bQ h (nJ jc o)
theorem akp (d:Kd α) (w:World):d.C w none ([]:List α).length []:=⟨rfl,by simp,fun h=>absurd h (Nat.lt_irrefl 0)⟩
theorem aae {A:Option Addr} {n c:Nat} (h:d.R e w base ok (.slice A n c) xs):n=xs.length∧n≤c∧d.C w A xs.length xs:=by
 obtain⟨A',c',he,hl,hr⟩:=rX h
 injection he with h1 h2 h3
 subst h1
 exact⟨h2,by omega,hr⟩
theorem aec (h:d.R e w base ok v xs):∀k,v.ownBlock=some k→k<w.heap.size:=by
 obtain⟨inner,ho⟩:=Uz h
 exact TJ ho
theorem E5 (h:d.R e w base ok v xs):∀k,v.ownBlock=some k→base≤k:=by
 obtain⟨inner,ho⟩:=Uz h
 exact rE ho
theorem Z_ (h:d.R e w base ok v xs) {g:Nat} (hok:∀k,ok k→k≠g):some g≠v.ownBlock:=fun e=>hok g (h.1 g e.symm) rfl
end
section
variable {w W:World} {A:Option Addr} {n:Nat}
variable {α:Type} {enc:α→Value} {h1:∀x,(enc x).oneCell'=true} {e base g cap:Nat} {ok:Nat→Prop} {xs:List α}
end
section
variable {P:Program} {ops:Array Oper} {rest:List Oper} {o:Oper} {a:Act} {Q:Exit→Act→World→Prop}
theorem Je {W w1:World} {v:Value} (hgd:o.guard=none) (hrun:(execOp a.eval o).run P W=.ok (.value v) w1) (h:wpList P ops Q rest (a.put o.dst v) w1):wpList P ops Q (o::rest) a W:=by
 refine wpList_plain hgd fun K hK=>?_
 unfold Oper.wp
 rw[hrun]
 exact hK _ _ h
variable {α:Type}
theorem agU (d:Kd α) {w0 W:World} (base e:Nat) (hgd:o.guard=none) {N:Tmp} (_hd:o.dst=some N) {xs:List α} {inner:List Value} {ok iR:Nat→Prop}
  (hrun:(execOp a.eval o).run P W=.ok (.value (.slice (some ⟨W.heap.size,0,none⟩) xs.length xs.length)) (W.alloc (.cells inner.toArray e)))
  (hrep:qG (d.M W base iR) d.sz xs inner) (hok:∀k,iR k→ok k) (hfresh:ok W.heap.size) (HB:Below base w0 W) (hbase:base≤W.heap.size) (hm:xs.length≤9223372036854775807)
  (h:∀v1 w1,d.R e w1 base ok v1 xs→Below base w0 w1→W.grownBy w1 none→(∃b,v1.ownBlock=some b∧W.heap.size≤b)→wpList P ops Q rest (a.put o.dst v1) w1):wpList P ops Q (o::rest) a W:=by
 refine Je hgd hrun (h _ _ ⟨fun k hk=>?_,inner,?_,?_⟩ (HB.alloc hbase _) (World.grownBy_alloc W _ none) ⟨W.heap.size,by simp[Value.ownBlock],bW⟩)
 ·have:W.heap.size=k:=by simpa[Value.ownBlock]using hk
  subst this
  exact hfresh
 ·have h2:=World.ownsRow_lit (base:=base) (e:=e) (size:=d.sz) W inner.toArray xs.length hbase (by simpa[maxLen]using hm) (by simpa using hrep.1)
  simpa using h2
 ·refine hrep.AZ (fun p c hp=>d.jX (fun k hk=>⟨hok k hk.1,fun he=>?_⟩) (ad9 (d.jT hp) (nJ jc _)))
  have h3:k=W.heap.size:=by simpa[Value.ownBlock]using he
  have:=hk.2.2.1
  omega
end
end Kd
section
variable {P:Program}
end
section
variable {w w1:World} {base n size:Nat} {e:TypeId} {v:Value} {xs:List Value}
end
section
variable {P:Program}
end
namespace Kd
section
variable {α:Type} {d:Kd α} {e:Nat} {w w1 W:World} {base:Nat} {ok ok':Nat→Prop} {v:Value} {xs:List α}
end
section
variable {P:Program} {ops:Array Oper} {rest:List Oper} {o:Oper} {a:Act} {Q':Exit→Act→World→Prop} {Kc:Act→World→Prop} {α:Type}
end
end Kd
namespace Kd
section
variable {α:Type} {d:Kd α} {e e':Nat} {w w1 W:World} {base:Nat} {ok:Nat→Prop} {u v:Value} {xs:List α}
theorem UA (h:d.R e w base ok v xs):∀k,v.ownBlock=some k→∃cells,w.heap[k]?=some (.cells cells e (0,0)):=by
 obtain⟨inner,ho⟩:=Uz h
 exact fun k hk=>Jv ho k hk
theorem aed (h:d.R e W base ok u xs) (hty:∀k,v.ownBlock=some k→∃cells,W.heap[k]?=some (.cells cells e' (0,0))) (ht:∀q,q∈e::d.E→q≠e') (hg:W.grownBy w1 v.ownBlock):d.R e w1 base ok u xs:=by
 refine gX (J_ (rW h) (fun k hk=>hg.block k hk.2.2.1 (fun he=>?_))) (fun _ hk=>hk.1)
 obtain⟨_,_,_,q,hq,cells,hc⟩:=hk
 obtain⟨cells',hc'⟩:=hty k he.symm
 rw[hc]at hc'
 injection hc' with hc'
 injection hc' with _ hc'
 exact ht q hq hc'
theorem Z9 (h:d.R e W base ok u xs) (hty:∀k,v.ownBlock=some k→∃cells,W.heap[k]?=some (.cells cells e' (0,0))) (ht:∀q,q∈e::d.E→q≠e'):d.R e W base (fun k=>ok k∧some k≠v.ownBlock) u xs:=by
 refine gX (rW h) (fun k hk=>⟨hk.1,fun he=>?_⟩)
 obtain⟨_,_,_,q,hq,cells,hc⟩:=hk
 obtain⟨cells',hc'⟩:=hty k he.symm
 rw[hc]at hc'
 injection hc' with hc'
 injection hc' with _ hc'
 exact ht q hq hc'
theorem zG (hu:d.R e W base ok u xs) (hbase:∀k,v.ownBlock=some k→W.heap.size≤k) (hb:Below W.heap.size W w1):d.R e w1 base (fun k=>ok k∧some k≠v.ownBlock) u xs :=
 gX (J_ (rW hu) (fun k hk=>hb.block k hk.2.2.1)) (fun k hk=>⟨hk.1,fun he=>by have:=hbase k he.symm;have:=hk.2.2.1;omega⟩)
theorem QO (h:d.R e w1 W.heap.size ok v xs) (hlt:∀k,u.ownBlock=some k→k<W.heap.size):d.R e w1 W.heap.size (fun k=>ok k∧some k≠u.ownBlock) v xs :=
 gX (rW h) (fun k hk=>⟨hk.1,fun he=>by have:=hlt k he.symm;have:=hk.2.1;omega⟩)
theorem ah7 (hlt:∀k,u.ownBlock=some k→k<W.heap.size):∀k,W.heap.size≤k→some k≠u.ownBlock:=fun k hk he=>by have:=hlt k he.symm;omega
end
end Kd
namespace Kd
section
variable {α:Type} {d:Kd α} {e base g n cap:Nat} {ok iR:Nat→Prop} {W:World} {xs:List α}
end
end Kd
namespace Kd
section
variable {α:Type} {F:Kd α→Kd α} {sz:Nat} {E:List Nat} {hs:∀n,(upto F sz E n).sz=sz} {hE:∀n q,q∈(upto F sz E n).E→q∈E}
end
end Kd
namespace Kd
section
variable {P:Program} {ops:Array Oper} {rest:List Oper} {o:Oper} {a:Act} {Q:Exit→Act→World→Prop} {α:Type}
end
end Kd
namespace Kd
section
variable {P:Program} {ops:Array Oper} {rest:List Oper} {o:Oper} {a:Act} {Q:Exit→Act→World→Prop} {α:Type}
end
end Kd
theorem add_add (a:Addr) (i j:Nat):(a.add i).add j=a.add (i+j):=by
 unfold Addr.add
 by_cases h1:i=0<;>by_cases h2:j=0<;>simp[h1,h2,Nat.add_assoc]
namespace Kd
section
variable {α:Type} {k:Kd α} {w:World} {A:Option Addr} {xs:List α} {m c:Nat}
theorem ahs (h:k.C w A xs.length xs) (hm:m≤xs.length) (hc:xs.length≤c):k.C w (if c=m then A else A.map (·.add (m*k.sz))) (xs.drop m).length (xs.drop m):=by
 have hl:(xs.drop m).length=xs.length-m:=List.length_drop
 refine⟨rfl,by rw[hl];have:=h.2.1;omega,fun hp=>?_⟩
 rw[hl]at hp
 obtain⟨ad,rfl,hcell⟩:=h.2.2 (by omega)
 rw[if_neg (by omega)]
 refine⟨ad.add (m*k.sz),rfl,fun j p hj=>?_⟩
 rw[List.getElem?_drop]at hj
 obtain⟨cs,h1,h2,h3⟩:=hcell (m+j) p hj
 refine⟨cs,h1,h2,fun i u hu=>?_⟩
 rw[add_add,show m*k.sz+(j*k.sz+i)=(m+j)*k.sz+i by rw[Nat.add_mul];omega]
 exact h3 i u hu
end
end Kd
section
variable {P:Program}
end
theorem iF {w W:World} (h:Below w.heap.size w W):w.heap.size≤W.heap.size:=h.size
theorem bT {w W w2:World} (h:Below w.heap.size w W) (k:Below W.heap.size W w2):Below w.heap.size w w2:=QX h h.size k
theorem XT {w W:World} {g j:Nat} {v:Value} (h:Below w.heap.size w W) (hg:w.heap.size≤g):Below w.heap.size w (W.setCell ⟨g,j,none⟩ v):=h.setCell hg _
theorem CP (a:Addr) (i:Nat):(a.add i).block=a.block:=by unfold Addr.add;split<;>rfl
theorem cell_far {W:World} {p a:Addr} (h:a.block≠p.block) (u:Value):(W.setCell p u).cell? a=W.cell? a:=by
 have:=ku W p u a.block h
 simp[World.cell?,this]
theorem qH {w:World} {g:Nat} {t:TypeId} {cs cs':Array Value} (h:w.heap[g]?=some (.cells cs t (0,0))) (i:Nat) (u:Value) (e:cs.setIfInBounds i u=cs'):(w.setCell ⟨g,i,none⟩ u).heap[g]?=some (.cells cs' t (0,0)):=e▸Ez h i u
theorem nK {base:Nat} {w W:World} (h:Below base w W):Below base w W.drew:=h.drew
namespace Kd
section
variable {α β:Type} {d:Kd α} {d':Kd β} {e e' base base' n:Nat} {ok ok':Nat→Prop} {w W w1 W1:World} {v u:Value} {xs:List α} {ys:List β} {A:Option Addr} {c:Nat}
end
section
variable {α:Type} {enc:α→Value} {h1:∀x,(enc x).oneCell'=true} {w W:World} {A:Option Addr} {n g:Nat} {xs:List α}
end
end Kd
namespace Kd
section
variable {α:Type} {d:Kd α} {e base g:Nat} {ok:Nat→Prop} {w w1:World} {v:Value} {xs:List α} {o:Obj}
theorem aac (h:d.R e w1 w.heap.size ok v xs) (hb:w.heap[g]?=some o):d.R e w1 w.heap.size (fun k=>ok k∧k≠g) v xs:=gX (rW h) (fun k hk=>⟨hk.1,by have:=eP hb;have:=hk.2.1;omega⟩)
theorem abl (hb:w.heap[g]?=some o):∀k,w.heap.size≤k→k≠g:=fun k hk=>by have:=eP hb;omega
end
end Kd
section
variable {P:Program} {ops:Array Oper} {rest:List Oper} {o:Oper} {a:Act} {Q:Exit→Act→World→Prop}
theorem XU {W:World} (hgd:o.guard=none) {N:Tmp} (_hd:o.dst=some N) {cs:Array Value} {t:TypeId}
  (hrun:(execOp a.eval o).run P W=.ok (.value (.pointer (some ⟨W.heap.size,0,none⟩))) (W.alloc (.cells cs t (0,0))))
  (h:∀g,g=W.heap.size→∀w1,w1.heap[g]?=some (.cells cs t (0,0))→Below W.heap.size W w1→wpList P ops Q rest (a.put o.dst (.pointer (some ⟨g,0,none⟩))) w1):wpList P ops Q (o::rest) a W :=
 Kd.Je hgd hrun (h _ rfl _ (aV W _) (nJ jc _))
end
namespace Kd
section
variable {α:Type} {enc:α→Value} {h1:∀x,(enc x).oneCell'=true} {e base g n cap:Nat} {ok:Nat→Prop} {W:World} {xs:List α}
end
end Kd
section
variable {P:Program} {ops:Array Oper} {rest:List Oper} {o:Oper} {a:Act} {Q:Exit→Act→World→Prop}
end
namespace Kd
section
variable {α:Type} {enc:α→Value} {h1:∀x,(enc x).oneCell'=true} {e base g n cap:Nat} {ok:Nat→Prop} {W:World} {xs:List α}
end
end Kd
section
variable {P:Program} {ops:Array Oper} {rest:List Oper} {o:Oper} {a:Act} {Q:Exit→Act→World→Prop} {W:World}
theorem gI {N:Tmp} (_hN:o.dst=some N) (h:wpList P ops Q (o::rest) a W):wpList P ops Q (o::rest) a W:=h
end
section
variable {P:Program} {ops:Array Oper} {o:Oper} {a:Act} {Q:Exit→Act→World→Prop} {Kc:Act→World→Prop}
theorem RP {W w1:World} {v:Value} (hw:Region.wanted o (yielded ops a.tmps)=true) (hrun:(execOp a.eval o).run P W=.ok (.value v) w1) (h:Kc (a.put o.dst v) w1):if Region.wanted o (yielded ops a.tmps)=true then Oper.wp P o a W Kc Q else Kc (a.put o.dst undef) W:=by
 rw[if_pos hw]
 unfold Oper.wp
 rw[hrun]
 exact h
theorem Ol {W:World} (hw:Region.wanted o (yielded ops a.tmps)=true) {N:Tmp} (_hd:o.dst=some N) {cs:Array Value} {t:TypeId}
  (hrun:(execOp a.eval o).run P W=.ok (.value (.pointer (some ⟨W.heap.size,0,none⟩))) (W.alloc (.cells cs t (0,0))))
  (h:∀g,g=W.heap.size→∀w1,w1.heap[g]?=some (.cells cs t (0,0))→Below W.heap.size W w1→Kc (a.put o.dst (.pointer (some ⟨g,0,none⟩))) w1):if Region.wanted o (yielded ops a.tmps)=true then Oper.wp P o a W Kc Q else Kc (a.put o.dst undef) W :=
 RP hw hrun (h _ rfl _ (aV W _) (nJ jc _))
namespace Kd
variable {α:Type}
end Kd
end
section
variable {P:Program} {tmps:Array Value} {w:World}
end
namespace Kd
section
variable {P:Program} {α:Type}
end
section
variable {P:Program} {ops:Array Oper} {rest:List Oper} {o:Oper} {a:Act} {Q:Exit→Act→World→Prop} {Kc:Act→World→Prop} {α:Type}
end
end Kd
end
end Go.Proofs.ak.aT
namespace Go.Proofs.ak.aT
theorem aj.o {p:Prop} (h:aj p):p:=h.out
theorem iD.o {w w':World} (h:iD w w'):∃n,w'=w.drewN n:=h.out
end Go.Proofs.ak.aT
