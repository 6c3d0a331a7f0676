import Derived.Defers
import Derived.Laws.BitsLemmas
import Derived.OrdersHeld
import Derived.Recover
import Derived.Test.YtllcccekodcdmaaGreatDoorC00
set_option linter.unusedVariables false
set_option linter.unusedSimpArgs false
set_option maxRecDepth 100000
set_option maxHeartbeats 32000000
open Go.Proofs.Tryz
namespace Go.Proofs.YtllcccekodcdmaaGreatDoor.Ms
open Go Go.RowKit Go.Proofs.ak.aT
def bs (l:List UInt8):bG:=⟨l.toArray⟩
theorem aH (l:List UInt8):(bs l).size=l.length:=by simp[bs,ByteArray.size]
theorem m_ (l:List UInt8):(bs l).data.toList=l:=by simp[bs]
theorem bH (l:List UInt8):(bs l).toList=l:=by rw[ByteArray.toList_eq];exact m_ l
theorem dh (x y:List UInt8):bs x++bs y=bs (x++y):=ByteArray.mk_append_mk x y
theorem ahN {x y:List UInt8} (h:bs x=bs y):x=y:=by rw[←m_ x,h,m_]
theorem o8 (s:bG):bs s.data.toList=s:=by
 cases s;simp[bs]
inductive Sc where
 |y (n:Int)|n (n:Int)|q (n:Int)|i (n:Int)|u (n:Int)|x (n:Int)|t (n:Int)|h (n:Int)
 |b (v:Bool)|d (bits:Nat)|s (v:bG)|o (v:bG)|g (v:bG)
 deriving DecidableEq
def Sc.code:Sc→UInt8
 | .y _=>121| .n _=>110| .q _=>113| .i _=>105| .u _=>117| .x _=>120| .t _=>116| .h _=>104
 | .b _=>98| .d _=>100| .s _=>115| .o _=>111| .g _=>103
def Sc.val:Sc→Value
 | .y k=>.iface 5 (.int .u8 k)| .n k=>.iface 83 (.int .i16 k)| .q k=>.iface 84 (.int .u16 k)| .i k=>.iface 21 (.int .i32 k)
 | .u k=>.iface 22 (.int .u32 k)| .x k=>.iface 2 (.int .i64 k)| .t k=>.iface 30 (.int .u64 k)| .h k=>.iface 88 (.int .u32 k)
 | .b v=>.iface 4 (.bool v)| .d k=>.iface 85 (.float .f64 k)| .s v=>.iface 9 (.string v)| .o v=>.iface 87 (.string v)
 | .g v=>.iface 68 (.agg #[.string v])
inductive T where
 |base (c:UInt8)
 |arr (t:T)
 |dict (k:UInt8) (t:T)
 |str (ts:List T)
mutual
def T.sig:T→List UInt8
 | .base c=>[c]
 | .arr t=>97::t.sig
 | .dict k t=>97::123::k::(t.sig++[125])
 | .str ts=>40::(T.sigs ts++[41])
def T.sigs:List T→List UInt8
 |[]=>[]
 |t::ts=>t.sig++T.sigs ts
end
mutual
def T.ty:T→List UInt8
 | .base c=>[c]
 | .arr t=>91::t.ty
 | .dict k t=>123::k::t.ty
 | .str ts=>40::(T.nI ts++[41])
def T.nI:List T→List UInt8
 |[]=>[]
 |t::ts=>t.ty++T.nI ts
end
def kJ (k:UInt8):Prop:=k=121∨k=110∨k=113∨k=105∨k=117∨k=120∨k=116∨k=115∨k=111∨k=104
def dM (k:UInt8):Prop:=k=121∨k=98∨k=110∨k=113∨k=105∨k=117∨k=120∨k=116∨k=100∨k=115∨k=103∨k=111∨k=118∨k=104
theorem kJ.base {k:UInt8} (h:kJ k):dM k:=by
 unfold kJ at h;unfold dM;rcases h with rfl|rfl|rfl|rfl|rfl|rfl|rfl|rfl|rfl|rfl<;>decide
mutual
def T.wf:T→Prop
 | .base c=>dM c
 | .arr t=>t.wf
 | .dict k t=>kJ k∧t.wf
 | .str ts=>ts≠[]∧T.NV ts
def T.NV:List T→Prop
 |[]=>True
 |t::ts=>t.wf∧T.NV ts
end
mutual
def T.fits:T→Int→Int→Int→Prop
 | .base _,a,s,d=>a≤32∧s≤32∧d≤32
 | .arr t,a,s,d=>(a≤32∧s≤32∧d≤32)∧t.fits (a+1) s d
 | .dict _ t,a,s,d=>(a≤32∧s≤32∧d≤32)∧(a+1≤32∧d+1≤32)∧t.fits (a+1) s (d+1)
 | .str ts,a,s,d=>(a≤32∧s≤32∧d≤32)∧T.qC ts a (s+1) d
def T.qC:List T→Int→Int→Int→Prop
 |[],_,_,_=>True
 |t::ts,a,s,d=>t.fits a s d∧T.qC ts a s d
end
theorem T.Gg:∀(t:T) (a s d:Int),t.fits a s d→a≤32∧s≤32∧d≤32
 | .base _,_,_,_,h=>h
 | .arr _,_,_,_,h=>h.1
 | .dict _ _,_,_,_,h=>h.1
 | .str _,_,_,_,h=>h.1
theorem T.zX:∀(l:List T) (a s d:Int),T.qC l a s d→∀(i:Nat) (h:i<l.length),l[i].fits a s d
 |[],_,_,_,_,i,h=>by simp at h
 |t::l,a,s,d,hf,0,h=>hf.1
 |t::l,a,s,d,hf,i+1,h=>T.zX l a s d hf.2 i (by simpa using h)
mutual
def T.rk:T→Nat
 | .base _=>1
 | .arr t=>t.rk+1
 | .dict _ t=>t.rk+1
 | .str ts=>T.Xd ts+1
def T.Xd:List T→Nat
 |[]=>0
 |t::ts=>t.rk+T.Xd ts
end
theorem T.wU:∀t:T,0<t.rk:=by intro t;cases t<;>simp[T.rk]
theorem T.nH:∀(l:List T) (i:Nat) (h:i<l.length),l[i].rk≤T.Xd l
 |[],i,h=>by simp at h
 |a::l,0,h=>by simp[T.Xd]
 |a::l,i+1,h=>by
  have:=T.nH l i (by simpa using h)
  simp only[List.getElem_cons_succ,T.Xd];omega
theorem T.vT:∀(l:List T),T.NV l→∀(i:Nat) (h:i<l.length),l[i].wf
 |[],_,i,h=>by simp at h
 |a::l,hw,0,h=>hw.1
 |a::l,hw,i+1,h=>T.vT l hw.2 i (by simpa using h)
theorem T.Nl:∀t:T,t.wf→∃c r,t.ty=c::r∧c≠41
 | .base c,h=>⟨c,[],rfl,by rintro rfl;simp[T.wf,dM]at h⟩
 | .arr t,_=>⟨91,t.ty,rfl,by decide⟩
 | .dict k t,_=>⟨123,k::t.ty,rfl,by decide⟩
 | .str ts,_=>⟨40,T.nI ts++[41],rfl,by decide⟩
theorem T.pV:∀x y:List T,T.nI (x++y)=T.nI x++T.nI y
 |[],y=>rfl
 |t::x,y=>by simp[T.nI,T.pV x y]
theorem T.Uf (l:List T) (k:Nat) (h:k<l.length):T.nI l=T.nI (l.take k)++(l[k].ty++T.nI (l.drop (k+1))):=by
 conv=>lhs;rw[←List.take_append_drop k l,T.pV,List.drop_eq_getElem_cons h]
 rfl
theorem T.Hg (l:List T) (k:Nat) (h:k<l.length):T.nI (l.take (k+1))=T.nI (l.take k)++l[k].ty:=by
 rw[lu h,T.pV];simp[T.nI]
theorem T.nP:∀x y:List T,T.sigs (x++y)=T.sigs x++T.sigs y
 |[],y=>rfl
 |t::x,y=>by simp[T.sigs,T.nP x y]
theorem T.Du (l:List T) (k:Nat) (h:k<l.length):T.sigs (l.take (k+1))=T.sigs (l.take k)++l[k].sig:=by
 rw[lu h,T.nP];simp[T.sigs]
inductive A where
 |sc (x:Sc)
 |var (t:T) (a:A)
 |jJ (l:List A)
 |list (t:T) (l:List A)
 |dict (k:UInt8) (t:T) (ks vs:List A)
mutual
def A.dN:A→T
 | .sc x=>.base x.code
 | .var _ _=>.base 118
 | .jJ l=>.str (A.iZ l)
 | .list t _=>.arr t
 | .dict k t _ _=>.dict k t
def A.iZ:List A→List T
 |[]=>[]
 |a::l=>a.dN::A.iZ l
end
mutual
def A.rk:A→Nat
 | .sc _=>1
 | .var _ a=>a.rk+1
 | .jJ l=>A.Xd l+1
 | .list _ l=>A.Xd l+1
 | .dict _ _ ks vs=>A.Xd ks+A.Xd vs+1
def A.Xd:List A→Nat
 |[]=>0
 |a::l=>a.rk+A.Xd l
end
theorem A.wU:∀a:A,0<a.rk:=by intro a;cases a<;>simp[A.rk]
theorem A.nH:∀(l:List A) (i:Nat) (h:i<l.length),l[i].rk≤A.Xd l
 |[],i,h=>by simp at h
 |a::l,0,h=>by simp[A.Xd]
 |a::l,i+1,h=>by
  have:=A.nH l i (by simpa using h)
  simp only[List.getElem_cons_succ,A.Xd];omega
def Row (w:World) (ok:Nat→Prop) (e:TypeId) (s:Value) (vs:List Value):Prop :=
 (∀k,s.ownBlock=some k→ok k)∧w.ownsRow 0 e 1 s vs.length vs
mutual
def HA (w:World) (ok:Nat→Prop):A→Value→Prop
 | .sc x,v=>v=x.val
 | .var t a,v=>∃u,v=.iface 70 (.agg #[.string (bs t.sig),u])∧HA w ok a u
 | .jJ l,v=>∃s vs,v=.iface 91 (.agg #[s])∧Row w ok 20 s vs∧nX w ok l vs
 | .list t l,v=>∃b s vs,v=.iface 100 (.pointer (some ⟨b,0,none⟩))∧ok b∧w.heap[b]?=some (.cells #[.string (bs t.ty),s] 102 (0,0))∧Row w ok 20 s vs∧nX w ok l vs
 | .dict k t ks es,v=>∃b s1 s2 vs1 vs2,v=.iface 129 (.pointer (some ⟨b,0,none⟩))∧ok b ∧
    w.heap[b]?=some (.cells #[.string (bs [k]),.string (bs t.ty),s1,s2] 132 (0,0))∧Row w ok 20 s1 vs1∧nX w ok ks vs1∧Row w ok 20 s2 vs2∧nX w ok es vs2
def nX (w:World) (ok:Nat→Prop):List A→List Value→Prop
 |[],vs=>vs=[]
 |a::l,vs=>∃v vs',vs=v::vs'∧HA w ok a v∧nX w ok l vs'
end
theorem Row.mono {w:World} {ok ok':Nat→Prop} {e:TypeId} {s:Value} {vs:List Value} (h:Row w ok e s vs) (ho:∀k,ok k→ok' k):Row w ok' e s vs :=
 ⟨fun k hk=>ho k (h.1 k hk),h.2⟩
theorem Row.move {w w1:World} {ok:Nat→Prop} {e:TypeId} {s:Value} {vs:List Value} (h:Row w ok e s vs) (hm:∀k,ok k→w1.heap[k]?=w.heap[k]?):Row w1 ok e s vs :=
 ⟨h.1,PX h.2 (fun k hk=>hm k (h.1 k hk))⟩
theorem Row.bound {w:World} {ok:Nat→Prop} {e:TypeId} {s:Value} {vs:List Value} (h:Row w ok e s vs):Row w (fun k=>ok k∧k<w.heap.size) e s vs :=
 ⟨fun k hk=>⟨h.1 k hk,TJ h.2 k hk⟩,h.2⟩
theorem lt_of_block {w:World} {b:Nat} {o:Obj} (h:w.heap[b]?=some o):b<w.heap.size:=(Array.getElem?_eq_some_iff.1 h).1
mutual
theorem HA.mono {w:World} {ok ok':Nat→Prop} (ho:∀k,ok k→ok' k):∀{a:A} {v:Value},HA w ok a v→HA w ok' a v
 | .sc x,v,h=>h
 | .var t a,v,h=>by
   obtain⟨u,hv,ha⟩:=h
   exact⟨u,hv,HA.mono ho ha⟩
 | .jJ l,v,h=>by
   obtain⟨s,vs,hv,hr,hl⟩:=h
   exact⟨s,vs,hv,hr.mono ho,nX.mono ho hl⟩
 | .list t l,v,h=>by
   obtain⟨b,s,vs,hv,hb,hc,hr,hl⟩:=h
   exact⟨b,s,vs,hv,ho b hb,hc,hr.mono ho,nX.mono ho hl⟩
 | .dict k t ks es,v,h=>by
   obtain⟨b,s1,s2,vs1,vs2,hv,hb,hc,hr1,hl1,hr2,hl2⟩:=h
   exact⟨b,s1,s2,vs1,vs2,hv,ho b hb,hc,hr1.mono ho,nX.mono ho hl1,hr2.mono ho,nX.mono ho hl2⟩
theorem nX.mono {w:World} {ok ok':Nat→Prop} (ho:∀k,ok k→ok' k):∀{l:List A} {vs:List Value},nX w ok l vs→nX w ok' l vs
 |[],vs,h=>h
 |a::l,vs,h=>by
  obtain⟨v,vs',hv,ha,hl⟩:=h
  exact⟨v,vs',hv,HA.mono ho ha,nX.mono ho hl⟩
end
mutual
theorem HA.move {w w1:World} {ok:Nat→Prop} (hm:∀k,ok k→w1.heap[k]?=w.heap[k]?):∀{a:A} {v:Value},HA w ok a v→HA w1 ok a v
 | .sc x,v,h=>h
 | .var t a,v,h=>by
   obtain⟨u,hv,ha⟩:=h
   exact⟨u,hv,HA.move hm ha⟩
 | .jJ l,v,h=>by
   obtain⟨s,vs,hv,hr,hl⟩:=h
   exact⟨s,vs,hv,hr.move hm,nX.move hm hl⟩
 | .list t l,v,h=>by
   obtain⟨b,s,vs,hv,hb,hc,hr,hl⟩:=h
   exact⟨b,s,vs,hv,hb,(hm b hb).trans hc,hr.move hm,nX.move hm hl⟩
 | .dict k t ks es,v,h=>by
   obtain⟨b,s1,s2,vs1,vs2,hv,hb,hc,hr1,hl1,hr2,hl2⟩:=h
   exact⟨b,s1,s2,vs1,vs2,hv,hb,(hm b hb).trans hc,hr1.move hm,nX.move hm hl1,hr2.move hm,nX.move hm hl2⟩
theorem nX.move {w w1:World} {ok:Nat→Prop} (hm:∀k,ok k→w1.heap[k]?=w.heap[k]?):∀{l:List A} {vs:List Value},nX w ok l vs→nX w1 ok l vs
 |[],vs,h=>h
 |a::l,vs,h=>by
  obtain⟨v,vs',hv,ha,hl⟩:=h
  exact⟨v,vs',hv,HA.move hm ha,nX.move hm hl⟩
end
mutual
theorem HA.bound {w:World} {ok:Nat→Prop}:∀{a:A} {v:Value},HA w ok a v→HA w (fun k=>ok k∧k<w.heap.size) a v
 | .sc x,v,h=>h
 | .var t a,v,h=>by
   obtain⟨u,hv,ha⟩:=h
   exact⟨u,hv,HA.bound ha⟩
 | .jJ l,v,h=>by
   obtain⟨s,vs,hv,hr,hl⟩:=h
   exact⟨s,vs,hv,hr.bound,nX.bound hl⟩
 | .list t l,v,h=>by
   obtain⟨b,s,vs,hv,hb,hc,hr,hl⟩:=h
   exact⟨b,s,vs,hv,⟨hb,lt_of_block hc⟩,hc,hr.bound,nX.bound hl⟩
 | .dict k t ks es,v,h=>by
   obtain⟨b,s1,s2,vs1,vs2,hv,hb,hc,hr1,hl1,hr2,hl2⟩:=h
   exact⟨b,s1,s2,vs1,vs2,hv,⟨hb,lt_of_block hc⟩,hc,hr1.bound,nX.bound hl1,hr2.bound,nX.bound hl2⟩
theorem nX.bound {w:World} {ok:Nat→Prop}:∀{l:List A} {vs:List Value},nX w ok l vs→nX w (fun k=>ok k∧k<w.heap.size) l vs
 |[],vs,h=>h
 |a::l,vs,h=>by
  obtain⟨v,vs',hv,ha,hl⟩:=h
  exact⟨v,vs',hv,HA.bound ha,nX.bound hl⟩
end
theorem HA.step {w w1:World} {ok:Nat→Prop} {a:A} {v:Value} (h:HA w ok a v) (hm:∀k,ok k→k<w.heap.size→w1.heap[k]?=w.heap[k]?):HA w1 ok a v :=
 (HA.move (fun k hk=>hm k hk.1 hk.2) h.bound).mono (fun _ hk=>hk.1)
theorem nX.step {w w1:World} {ok:Nat→Prop} {l:List A} {vs:List Value} (h:nX w ok l vs) (hm:∀k,ok k→k<w.heap.size→w1.heap[k]?=w.heap[k]?):nX w1 ok l vs :=
 (nX.move (fun k hk=>hm k hk.1 hk.2) h.bound).mono (fun _ hk=>hk.1)
theorem HA.below {w w1:World} {ok:Nat→Prop} {a:A} {v:Value} (h:HA w ok a v) (hb:Below w.heap.size w w1):HA w1 ok a v:=h.step (fun k _ hk=>hb.block k hk)
theorem nX.below {w w1:World} {ok:Nat→Prop} {l:List A} {vs:List Value} (h:nX w ok l vs) (hb:Below w.heap.size w w1):nX w1 ok l vs:=h.step (fun k _ hk=>hb.block k hk)
theorem Row.step {w w1:World} {ok:Nat→Prop} {e:TypeId} {s:Value} {vs:List Value} (h:Row w ok e s vs) (hm:∀k,ok k→k<w.heap.size→w1.heap[k]?=w.heap[k]?):Row w1 ok e s vs :=
 (Row.move h.bound (fun k hk=>hm k hk.1 hk.2)).mono (fun _ hk=>hk.1)
theorem nX.len {w:World} {ok:Nat→Prop}:∀{l:List A} {vs:List Value},nX w ok l vs→vs.length=l.length
 |[],vs,h=>by cases h;rfl
 |a::l,vs,h=>by
  obtain⟨v,vs',rfl,_,hl⟩:=h
  simp[nX.len hl]
theorem nX.snoc {w:World} {ok:Nat→Prop}:∀{l:List A} {vs:List Value} {a:A} {v:Value},nX w ok l vs→HA w ok a v→nX w ok (l++[a]) (vs++[v])
 |[],vs,a,v,h,ha=>by cases h;exact⟨v,[],rfl,ha,rfl⟩
 |b::l,vs,a,v,h,ha=>by
  obtain⟨u,vs',rfl,hb,hl⟩:=h
  exact⟨u,vs'++[v],rfl,hb,nX.snoc hl ha⟩
theorem nX.get {w:World} {ok:Nat→Prop}:∀{l:List A} {vs:List Value},nX w ok l vs→∀i (h:i<l.length),∃v,vs[i]?=some v∧HA w ok l[i] v
 |[],vs,h,i,hi=>by simp at hi
 |a::l,vs,h,i,hi=>by
  obtain⟨v,vs',rfl,ha,hl⟩:=h
  cases i with
  |zero=>exact⟨v,rfl,ha⟩
  |succ i=>exact nX.get hl i (by simpa using hi)
theorem HA.iface {w:World} {ok:Nat→Prop}:∀{a:A} {v:Value},HA w ok a v→∃t u,v=.iface t u
 | .sc x,v,h=>by rw[show v=x.val from h];cases x<;>exact⟨_,_,rfl⟩
 | .var t a,v,h=>by obtain⟨u,hv,_⟩:=h;exact⟨_,_,hv⟩
 | .jJ l,v,h=>by obtain⟨s,vs,hv,_⟩:=h;exact⟨_,_,hv⟩
 | .list t l,v,h=>by obtain⟨b,s,vs,hv,_⟩:=h;exact⟨_,_,hv⟩
 | .dict k t ks es,v,h=>by obtain⟨b,s1,s2,vs1,vs2,hv,_⟩:=h;exact⟨_,_,hv⟩
theorem HA.one {w:World} {ok:Nat→Prop} {a:A} {v:Value} (h:HA w ok a v):v.oneCell'=true:=by
 obtain⟨t,u,rfl⟩:=h.iface;rfl
theorem Row.cell {w:World} {ok:Nat→Prop} {e:TypeId} {s:Value} {vs:List Value} (h:Row w ok e s vs):∃A c,s=.slice A vs.length c∧vs.length≤c∧c≤maxLen ∧
  (0<vs.length→∃g,A=some ⟨g,0,none⟩∧∀i v,vs[i]?=some v→w.cell? ⟨g,i,none⟩=some v):=by
 obtain⟨_,h⟩:=h
 rcases h.2 with ⟨rfl,h0⟩|⟨g,cap,cur,rfl,hb,hh,h1,h2,h3⟩
 ·exact⟨none,0,by rw[h0],by omega,by simp[maxLen],fun hp=>by omega⟩
 ·exact⟨_,cap,rfl,h1,h2,fun _=>⟨g,rfl,fun i v hv=>by have hc:=h.cells (g:=g) rfl i v hv;rwa [add_plain]at hc⟩⟩
end Go.Proofs.YtllcccekodcdmaaGreatDoor.Ms
namespace Go.Proofs.ak.cO
section
section
variable {P:Program} {ops:Array Oper} {Q:Exit→Act→World→Prop} {md:Region.Mode} {S:World→Prop} {ds:List Nat}
def Region.tN (md:Region.Mode) (ops:Array Oper) (i:Nat):Nat→Nat→Bool
 |0,_=>false
 |fuel+1,d=>match ops[d]? with
  |some o=>o.after.any fun e=>Region.binds md e&&(e.on==i || Region.tN md ops i fuel e.on)
  |none=>false
def Region.xB (md:Region.Mode) (ops:Array Oper) (listed:Array Bool):Bool :=
 (List.range ops.size).all fun j=>!listed.getD j false || match ops[j]? with
   |some o=>o.after.all fun e=>!Region.binds md e || listed.getD e.on false
   |none=>true
def Region.Px (md:Region.Mode) (ops:Array Oper) (listed:Array Bool) (ds:List Nat) (i:Nat):Bool :=
 ds.all fun d=>listed.getD d true || Region.tN md ops i ops.size d
def kK (md:Region.Mode) (ops:Array Oper) (listed:Array Bool):Prop :=
 ∀j oj,ops[j]?=some oj→listed.getD j false=true→∀e∈oj.after,Region.binds md e=true→listed.getD e.on false=true
theorem Region.Kw {listed:Array Bool} (h:Region.xB md ops listed=true):kK md ops listed:=by
 intro j oj hj hl e he hb
 have hlt:j<ops.size:=(Array.getElem?_eq_some_iff.1 hj).1
 have h1:=List.all_eq_true.1 h j (List.mem_range.2 hlt)
 simp only[hl,hj,Bool.not_true,Bool.false_or]at h1
 have h2:=Array.all_eq_true_iff_forall_mem.1 h1 e he
 simpa[hb]using h2
theorem kK.set {listed:Array Bool} {i:Nat} (h:kK md ops listed) (hi:i∈Region.ready md ops listed):kK md ops (listed.setIfInBounds i true):=by
 obtain⟨_,oi,hoi,hall⟩:=mem_ready.1 hi
 intro j oj hj hl e he hb
 by_cases hij:i=j
 ·subst hij
  have:oj=oi:=dU (hj.symm.trans hoi)
  subst this
  exact getD_set_true (hall e he hb)
 ·rw[getD_set_ne false hij]at hl
  exact getD_set_true (h j oj hj hl e he hb)
theorem Region.Bv {listed:Array Bool} {i:Nat} (hc:kK md ops listed):∀(fuel d:Nat),Region.tN md ops i fuel d=true→listed.getD d false=true→listed.getD i false=true
 |0,_,h,_=>by simp[Region.tN]at h
 |fuel+1,d,h,hl=>by
  unfold Region.tN at h
  cases ho:ops[d]? with
  |none=>rw[ho]at h;simp at h
  |some o =>
   rw[ho]at h
   obtain⟨e,he,h1⟩:=Array.any_eq_true'.1 h
   simp only[Bool.and_eq_true,Bool.or_eq_true,beq_iff_eq]at h1
   have hle:=hc d o ho hl e he h1.1
   rcases h1.2 with h2|h2
   ·rw[←h2];exact hle
   ·exact Region.Bv hc fuel e.on h2 hle
theorem Region.Ei {listed:Array Bool} {i d fuel:Nat} (hc:kK md ops listed) (hr:Region.tN md ops i fuel d=true) (hun:listed.getD i true=false):d∉Region.ready md ops listed:=by
 intro hd
 obtain⟨_,o,ho,hall⟩:=mem_ready.1 hd
 have hi:listed.getD i false=true:=by
  cases fuel with
  |zero=>simp[Region.tN]at hr
  |succ n =>
   unfold Region.tN at hr
   rw[ho]at hr
   obtain⟨e,he,h1⟩:=Array.any_eq_true'.1 hr
   simp only[Bool.and_eq_true,Bool.or_eq_true,beq_iff_eq]at h1
   have hle:=hall e he h1.1
   rcases h1.2 with h2|h2
   ·rw[←h2];exact hle
   ·exact Region.Bv hc n e.on h2 hle
 rcases Nat.lt_or_ge i listed.size with h'|h'
 ·simp[h']at hun hi
  rw[hun]at hi
  cases hi
 ·simp[Array.getElem?_eq_none h']at hun
def aW (P:Program) (md:Region.Mode) (ops:Array Oper) (Q:Exit→Act→World→Prop) (S:World→Prop) (ds:List Nat):Nat→Array Bool→Act→World→Prop
 |0,listed,a,w=>Region.ready md ops listed=[]∧Q .normal a w
 |fuel+1,listed,a,w =>
  (Region.ready md ops listed=[]→Q .normal a w) ∧
  ∀i∈Region.ready md ops listed,wpOp P ops Q i (fun a' w'=>(i∉ds→S w→S w')∧aW P md ops Q S ds fuel (listed.setIfInBounds i true) a' w') a w
theorem yQ:∀(fuel:Nat) (listed:Array Bool) (a:Act) (w:World),aW P md ops Q S ds fuel listed a w→wpAny P md ops Q fuel listed a w
 |0,_,_,_,h=>h
 |fuel+1,_,_,_,h=>⟨h.1,fun i hi=>wpOp_mono (fun a' w' h'=>yQ fuel _ a' w' h'.2) (h.2 i hi)⟩
theorem Ej {i:Nat} {oi:Oper} {v:Value} (hi:ops[i]?=some oi) (hsel:∀(j:Nat) (o:Oper) cs b,ops[j]?=some o→o.op≠.select cs b)
  (hQ:∀c a w,Q (.panic c) (a.put oi.dst v) w→Q (.panic c) a w) (n:Nat) :
  ∀(fuel:Nat) (listed:Array Bool) (a:Act) (w:World),
   (∀j oj,ops[j]?=some oj→j≠i→listed.getD j true=false→(∀e∈oj.after,Region.binds md e=true→e.on≠i)→oi.apart ops oj=true) →
   kK md ops listed→(∀d∈ds,listed.getD d true=false→Region.tN md ops i n d=true) →
   i∈Region.ready md ops listed→YieldsIf P ops S oi v a→S w →
   aW P md ops Q S ds fuel (listed.setIfInBounds i true) (a.put oi.dst v) w→aW P md ops Q S ds (fuel+1) listed a w:=by
 intro fuel
 induction fuel with
 |zero =>
  intro listed a w _ _ _ hr hy hS H
  refine⟨fun h=>(by rw[h]at hr;cases hr),fun j hj=>?_⟩
  by_cases hji:j=i
  ·subst hji;exact hy.wpOp hi hS ⟨fun _ h=>h,H⟩
  ·have:=ready_mono hj hji
   rw[H.1]at this
   cases this
 |succ fuel ih =>
  intro listed a w hfree hc hd hr hy hS H
  refine⟨fun h=>(by rw[h]at hr;cases hr),fun j hj=>?_⟩
  by_cases hji:j=i
  ·subst hji;exact hy.wpOp hi hS ⟨fun _ h=>h,H⟩
  ·have h1:=H.2 j (ready_mono hj hji)
   obtain⟨hjun,oj,hoj,hall⟩:=mem_ready.1 hj
   have Yr:=(mem_ready.1 hr).1
   have hnot:∀e∈oj.after,Region.binds md e=true→e.on≠i:=fun e he hb heq=>by
    have h1:=hall e he hb
    rw[heq]at h1
    rcases Nat.lt_or_ge i listed.size with h'|h'
    ·simp[h']at Yr h1;rw[Yr]at h1;cases h1
    ·simp[Array.getElem?_eq_none h']at h1
   have hjd:j∉ds:=fun hm=>Region.Ei hc (hd j hm hjun) Yr hj
   have h2:=wpOp_putIf hoj (hfree j oj hoj hji hjun hnot) (fun cs b=>hsel i oi cs b hi) (fun cs b=>hsel j oj cs b hoj) hQ hy h1
   have hfree':∀k ok,ops[k]?=some ok→k≠i→(listed.setIfInBounds j true).getD k true=false →
     (∀e∈ok.after,Region.binds md e=true→e.on≠i)→oi.apart ops ok=true:=fun k ok hk hki hun hno=>by
    refine hfree k ok hk hki ?_ hno
    by_cases hjk:j=k
    ·subst hjk;exact hjun
    ·rw[getD_set_ne true hjk]at hun;exact hun
   have hd':∀d∈ds,(listed.setIfInBounds j true).getD d true=false→Region.tN md ops i n d=true:=fun d hm hun=>by
    refine hd d hm ?_
    by_cases hjk:j=d
    ·subst hjk;exact hjun
    ·rw[getD_set_ne true hjk]at hun;exact hun
   refine wpOp_mono (fun a' w' h3=>⟨h3.2.1,ih (listed.setIfInBounds j true) a' w' hfree' (hc.set hj) hd' (ready_mono hr (Ne.symm hji)) h3.1 (h3.2.1 hjd hS) ?_⟩) h2
   rw[Array.setIfInBounds_comm _ _ hji]
   exact h3.2.2
theorem qg {i:Nat} {oi:Oper} {v:Value} (hi:ops[i]?=some oi) (hsel:∀(j:Nat) (o:Oper) cs b,ops[j]?=some o→o.op≠.select cs b)
  (hQ:∀c a w,Q (.panic c) (a.put oi.dst v) w→Q (.panic c) a w) :
  ∀(fuel:Nat) (listed:Array Bool) (a:Act) (w:World),
   (∀j oj,ops[j]?=some oj→j≠i→listed.getD j true=false→(∀e∈oj.after,Region.binds md e=true→e.on≠i)→oi.apart ops oj=true) →
   i∈Region.ready md ops listed→Yields P ops oi v a →
   aW P md ops Q S ds fuel (listed.setIfInBounds i true) (a.put oi.dst v) w→aW P md ops Q S ds (fuel+1) listed a w:=by
 intro fuel
 induction fuel with
 |zero =>
  intro listed a w _ hr hy H
  refine⟨fun h=>(by rw[h]at hr;cases hr),fun j hj=>?_⟩
  by_cases hji:j=i
  ·subst hji;exact(hy.yieldsIf (S:=fun _=>True)).wpOp hi trivial ⟨fun _ h=>h,H⟩
  ·have:=ready_mono hj hji
   rw[H.1]at this
   cases this
 |succ fuel ih =>
  intro listed a w hfree hr hy H
  refine⟨fun h=>(by rw[h]at hr;cases hr),fun j hj=>?_⟩
  by_cases hji:j=i
  ·subst hji;exact(hy.yieldsIf (S:=fun _=>True)).wpOp hi trivial ⟨fun _ h=>h,H⟩
  ·have h1:=H.2 j (ready_mono hj hji)
   obtain⟨hjun,oj,hoj,hall⟩:=mem_ready.1 hj
   have Yr:=(mem_ready.1 hr).1
   have hnot:∀e∈oj.after,Region.binds md e=true→e.on≠i:=fun e he hb heq=>by
    have h1:=hall e he hb
    rw[heq]at h1
    rcases Nat.lt_or_ge i listed.size with h'|h'
    ·simp[h']at Yr h1;rw[Yr]at h1;cases h1
    ·simp[Array.getElem?_eq_none h']at h1
   have h2:=wpOp_put hoj (hfree j oj hoj hji hjun hnot) (fun cs b=>hsel i oi cs b hi) (fun cs b=>hsel j oj cs b hoj) hQ hy h1
   have hfree':∀k ok,ops[k]?=some ok→k≠i→(listed.setIfInBounds j true).getD k true=false →
     (∀e∈ok.after,Region.binds md e=true→e.on≠i)→oi.apart ops ok=true:=fun k ok hk hki hun hno=>by
    refine hfree k ok hk hki ?_ hno
    by_cases hjk:j=k
    ·subst hjk;exact hjun
    ·rw[getD_set_ne true hjk]at hun;exact hun
   refine wpOp_mono (fun a' w' h3=>⟨h3.2.1,ih (listed.setIfInBounds j true) a' w' hfree' (ready_mono hr (Ne.symm hji)) h3.1 ?_⟩) h2
   rw[Array.setIfInBounds_comm _ _ hji]
   exact h3.2.2
theorem oO {i:Nat} {oi:Oper} {v:Value} {fuel:Nat} {listed:Array Bool} {a:Act} {w:World} (hi:ops[i]?=some oi)
  (hs:Region.noSelect ops=true) (hf:Region.free md ops listed i=true) (hr:(Region.ready md ops listed).contains i=true)
  (hc:Region.xB md ops listed=true) (hl:Region.Px md ops listed ds i=true)
  (hQ:∀c a w,Q (.panic c) (a.put oi.dst v) w→Q (.panic c) a w) (hy:YieldsIf P ops S oi v a) (hS:S w)
  (h:aW P md ops Q S ds fuel (listed.setIfInBounds i true) (a.put oi.dst v) w):aW P md ops Q S ds (fuel+1) listed a w :=
 Ej hi (Region.noSelect_spec hs) hQ ops.size fuel listed a w (Region.free_spec hi hf) (Region.Kw hc)
  (fun d hm hun=>by have:=List.all_eq_true.1 hl d hm;rw[hun]at this;simpa using this) (by simpa using hr) hy hS h
theorem IC {rs:List Nat} {fuel:Nat} {listed:Array Bool} {a:Act} {w:World} (hr:Region.ready md ops listed=rs) (hne:rs≠[])
  (h:∀i∈rs,wpOp P ops Q i (fun a' w'=>(i∉ds→S w→S w')∧aW P md ops Q S ds fuel (listed.setIfInBounds i true) a' w') a w):aW P md ops Q S ds (fuel+1) listed a w :=
 ⟨fun h0=>absurd (hr▸h0) hne,hr▸h⟩
theorem xg {listed:Array Bool} {a:Act} {w:World} (hr:Region.ready md ops listed=[]) (h:Q .normal a w) :
  ∀fuel,aW P md ops Q S ds fuel listed a w
 |0=>⟨hr,h⟩
 | _+1=>⟨fun _=>h,by rw[hr];simp⟩
theorem xk {id:Nat} {a:Act} {w:World} (hm:P.follows .mixedOrders=true)
  (h:aW P .any ops Q S ds ops.size (Array.replicate ops.size false) a {w with drawn:=w.drawn+1}):(Code.region id ops true).wp P Q a w :=
 wp_region_any hm (yQ _ _ _ _ h)
end
section
variable {P:Program} {ops:Array Oper} {Q:Exit→Act→World→Prop} {md:Region.Mode} {S:World→Prop} {ds:List Nat}
def dO (P:Program) (md:Region.Mode) (ops:Array Oper) (Q:Exit→Act→World→Prop) (S:World→Prop) (ds:List Nat) (fuel:Nat) (listed:Array Bool) (a:Act) (w:World) (rs:List Nat):Prop :=
 ∀i∈rs,wpOp P ops Q i (fun a' w'=>(i∉ds→S w→S w')∧aW P md ops Q S ds fuel (listed.setIfInBounds i true) a' w') a w
theorem dO.nil {fuel:Nat} {listed:Array Bool} {a:Act} {w:World}:dO P md ops Q S ds fuel listed a w []:=fun _ h=>by cases h
theorem dO.cons {fuel:Nat} {listed:Array Bool} {a:Act} {w:World} {i:Nat} {o:Oper} {rs:List Nat} (ho:ops[i]?=some o) (hd:i∉ds)
  (h:∀K':Act→World→Prop,Shut (∀a w,S w→(S w→aW P md ops Q S ds fuel (listed.setIfInBounds i true) a w)→K' a w)→if Region.wanted o (yielded ops a.tmps)=true then Oper.wp P o a w K' Q else K' (a.put o.dst undef) w)
  (hs:dO P md ops Q S ds fuel listed a w rs):dO P md ops Q S ds fuel listed a w (i::rs):=fun j hj=>by
 rcases List.mem_cons.1 hj with rfl|hj
 ·exact wpOp_step ho (fun K' hK=>h K' (fun a w hS hW=>hK a w ⟨fun _ _=>hS,hW hS⟩))
 ·exact hs j hj
theorem dO.CV {fuel:Nat} {listed:Array Bool} {a:Act} {w:World} {i:Nat} {o:Oper} {rs:List Nat} (ho:ops[i]?=some o) (hd:i∈ds)
  (h:∀K':Act→World→Prop,Shut (∀a w,aW P md ops Q S ds fuel (listed.setIfInBounds i true) a w→K' a w)→if Region.wanted o (yielded ops a.tmps)=true then Oper.wp P o a w K' Q else K' (a.put o.dst undef) w)
  (hs:dO P md ops Q S ds fuel listed a w rs):dO P md ops Q S ds fuel listed a w (i::rs):=fun j hj=>by
 rcases List.mem_cons.1 hj with rfl|hj
 ·exact wpOp_step ho (fun K' hK=>h K' (fun a w hW=>hK a w ⟨fun hn=>absurd hd hn,hW⟩))
 ·exact hs j hj
theorem gy {rs:List Nat} {fuel:Nat} {listed:Array Bool} {a:Act} {w:World} (hr:Region.ready md ops listed=rs) (hne:rs≠[])
 (h:dO P md ops Q S ds fuel listed a w rs):aW P md ops Q S ds (fuel+1) listed a w:=IC hr hne h
theorem yB {id:Nat} {a:Act} {w:World} (hm:P.follows .mixedOrders=true) (hS:S w.drew)
  (h:S w.drew→aW P .any ops Q S ds ops.size (Array.replicate ops.size false) a w.drew):(Code.region id ops true).wp P Q a w :=
 xk hm (h hS)
theorem G8 {id n:Nat} {a:Act} {w:World} (l:Array Bool) (hm:P.follows .mixedOrders=true) (hn:ops.size=n) (hl:Array.replicate n false=l) (hS:S w.drew)
  (h:S w.drew→aW P .any ops Q S ds n l a w.drew):(Code.region id ops true).wp P Q a w:=by
 subst hn
 subst hl
 exact xk hm (h hS)
def takeB (md:Region.Mode) (ops:Array Oper) (ds:List Nat) (l l':Array Bool) (i:Nat):Bool :=
 Region.noSelect ops&&Region.free md ops l i&&(Region.ready md ops l).contains i&&Region.xB md ops l&&Region.Px md ops l ds i&&(l.setIfInBounds i true==l')
theorem atj {i:Nat} {N:Option Tmp} {oi:Oper} {v:Value} {fuel:Nat} {l:Array Bool} {a:Act} {w:World} (l':Array Bool) (hi:ops[i]?=some oi) (hN:oi.dst=N) (hc:takeB md ops ds l l' i=true)
  (hQ:∀c a w,Q (.panic c) (a.put oi.dst v) w→Q (.panic c) a w) (hy:YieldsIf P ops S oi v a) (hS:S w) {a':Act} (ha:a.put N v=a')
  (h:aW P md ops Q S ds fuel l' a' w):aW P md ops Q S ds (fuel+1) l a w:=by
 subst ha
 subst hN
 simp only[takeB,Bool.and_eq_true,beq_iff_eq]at hc
 obtain⟨⟨⟨⟨⟨h1,h2⟩,h3⟩,h4⟩,h5⟩,h6⟩:=hc
 subst h6
 exact oO hi h1 h2 h3 h4 h5 hQ hy hS h
def akV (md:Region.Mode) (ops:Array Oper) (l l':Array Bool) (i:Nat):Bool :=
 Region.noSelect ops&&Region.free md ops l i&&(Region.ready md ops l).contains i&&(l.setIfInBounds i true==l')
theorem as9 {i:Nat} {N:Option Tmp} {oi:Oper} {v:Value} {fuel:Nat} {l:Array Bool} {a:Act} {w:World} (l':Array Bool) (hi:ops[i]?=some oi) (hN:oi.dst=N) (hc:akV md ops l l' i=true)
  (hQ:∀c a w,Q (.panic c) (a.put oi.dst v) w→Q (.panic c) a w) (hy:Yields P ops oi v a) {a':Act} (ha:a.put N v=a')
  (h:aW P md ops Q S ds fuel l' a' w):aW P md ops Q S ds (fuel+1) l a w:=by
 subst ha
 subst hN
 simp only[akV,Bool.and_eq_true,beq_iff_eq]at hc
 obtain⟨⟨⟨h1,h2⟩,h3⟩,h6⟩:=hc
 subst h6
 exact qg hi (Region.noSelect_spec h1) hQ fuel l a w (Region.free_spec hi h2) (by simpa using h3) hy h
def MR (md:Region.Mode) (ops:Array Oper) (l l':Array Bool) (i:Nat):Bool:=(Region.ready md ops l==[i])&&(l.setIfInBounds i true==l')
theorem aqX {i:Nat} {N:Option Tmp} {oi:Oper} {fuel:Nat} {l:Array Bool} {a:Act} {w:World} (l':Array Bool) (hi:ops[i]?=some oi) (hN:oi.dst=N) (hc:MR md ops l l' i=true) (hd:i∉ds)
  (h:∀K:Act→World→Prop,Shut (∀a' w',S w'→(S w'→aW P md ops Q S ds fuel l' a' w')→K a' w')→if Region.wanted oi (yielded ops a.tmps)=true then Oper.wp P oi a w K Q else K (a.put N undef) w) :
  aW P md ops Q S ds (fuel+1) l a w:=by
 subst hN
 simp only[MR,Bool.and_eq_true,beq_iff_eq]at hc
 obtain⟨h1,h2⟩:=hc
 subst h2
 exact gy h1 (by simp) (dO.cons hi hd (fun K hK=>h K hK) dO.nil)
theorem ahh {i:Nat} {N:Option Tmp} {oi:Oper} {fuel:Nat} {l:Array Bool} {a:Act} {w:World} (l':Array Bool) (hi:ops[i]?=some oi) (hN:oi.dst=N) (hc:MR md ops l l' i=true) (hd:i∈ds)
  (h:∀K:Act→World→Prop,Shut (∀a' w',aW P md ops Q S ds fuel l' a' w'→K a' w')→if Region.wanted oi (yielded ops a.tmps)=true then Oper.wp P oi a w K Q else K (a.put N undef) w) :
  aW P md ops Q S ds (fuel+1) l a w:=by
 subst hN
 simp only[MR,Bool.and_eq_true,beq_iff_eq]at hc
 obtain⟨h1,h2⟩:=hc
 subst h2
 exact gy h1 (by simp) (dO.CV hi hd (fun K hK=>h K hK) dO.nil)
theorem FX {l:Array Bool} {a:Act} {w:World} {n:Nat} (hr:(Region.ready md ops l==[])=true) (h:Q .normal a w):aW P md ops Q S ds n l a w:=xg (by simpa using hr) h n
theorem aq5 {i j:Nat} {Ni Nj:Option Tmp} {oi oj:Oper} {fuel:Nat} {l:Array Bool} {a:Act} {w:World} (li lj:Array Bool) (hi:ops[i]?=some oi) (hj:ops[j]?=some oj) (hNi:oi.dst=Ni) (hNj:oj.dst=Nj)
  (hc:(Region.ready md ops l==[i,j]&&l.setIfInBounds i true==li&&l.setIfInBounds j true==lj)=true) (hdi:i∉ds) (hdj:j∉ds)
  (h1:∀K:Act→World→Prop,Shut (∀a' w',S w'→(S w'→aW P md ops Q S ds fuel li a' w')→K a' w')→if Region.wanted oi (yielded ops a.tmps)=true then Oper.wp P oi a w K Q else K (a.put Ni undef) w)
  (h2:∀K:Act→World→Prop,Shut (∀a' w',S w'→(S w'→aW P md ops Q S ds fuel lj a' w')→K a' w')→if Region.wanted oj (yielded ops a.tmps)=true then Oper.wp P oj a w K Q else K (a.put Nj undef) w) :
  aW P md ops Q S ds (fuel+1) l a w:=by
 subst hNi
 subst hNj
 simp only[Bool.and_eq_true,beq_iff_eq]at hc
 obtain⟨⟨h3,h4⟩,h5⟩:=hc
 subst h4
 subst h5
 exact gy h3 (by simp) (dO.cons hi hdi (fun K hK=>h1 K hK) (dO.cons hj hdj (fun K hK=>h2 K hK) dO.nil))
def Dq:Act→List (Tmp×Value)→Act
 |a,[]=>a
 |a,(n,v)::r=>Dq (a.put (some n) v) r
theorem amj {σ:Type} {fuel:Nat} {l:Array Bool} {a:Act} {w:World} (fuel':Nat) (l':Array Bool) (ns:σ→List (Tmp×Value)) (F:σ→World→Prop)
 (hcont:∀s w',F s w'→aW P md ops Q S ds fuel' l' (Dq a (ns s)) w')
 (h:(∀s w',F s w'→aW P md ops Q S ds fuel' l' (Dq a (ns s)) w')→aW P md ops Q S ds fuel l a w):aW P md ops Q S ds fuel l a w:=h hcont
theorem qm {fuel:Nat} {l:Array Bool} {a a':Act} {w:World} (ha:a=a') (h:aW P md ops Q S ds fuel l a' w):aW P md ops Q S ds fuel l a w:=by
 subst ha
 exact h
theorem alm {oi:Oper} {N:Option Tmp} {a:Act} {w:World} {K:Act→World→Prop} (f:FuncId) (args:Array Value) (hw:Region.wanted oi (yielded ops a.tmps)=true) (hN:oi.dst=N) (hrun:(execOp a.eval oi).run P w=.ok (.enter f args) w)
  (h:Calls P f args w fun e w'=>∃v,e=.returned v∧K (a.put N v) w'):if Region.wanted oi (yielded ops a.tmps)=true then Oper.wp P oi a w K Q else K (a.put N undef) w:=by
 rw[if_pos hw]
 subst hN
 unfold Oper.wp
 rw[hrun,Oper.upon_enter]
 refine h.mono fun e w'' hh=>?_
 obtain⟨v,rfl,hk⟩:=hh
 exact hk
theorem U6 {f:FuncId} {fn:Func} (hf:P.funcs[f]?=some fn) (hname:(fn.name== "runtime.NumGoroutine")=false) (hb:fn.body.isSome=true) (args:Array Value) (w:World):(callFunc f args).run P w=.ok (.enter f args) w:=by
 have h1:fn.name≠ "runtime.NumGoroutine":=by simpa using hname
 obtain⟨c,hc⟩:=Option.isSome_iff_exists.1 hb
 simp[callFunc,hf,h1,hc]
theorem DZ {oi:Oper} {N:Option Tmp} {a:Act} {w:World} {K:Act→World→Prop} {f:FuncId} {fn:Func} {QU:Array Operand} {ts:Array TypeId} (hf:P.funcs[f]?=some fn) (hname:(fn.name== "runtime.NumGoroutine")=false) (hb:fn.body.isSome=true) (args:Array Value)
  (hw:Region.wanted oi (yielded ops a.tmps)=true) (hN:oi.dst=N) (hop:oi.op=.call {callee:=.value (.func f),args:=QU,argTypes:=ts}) (hargs:QU.map a.eval=args)
  (h:Calls P f args w fun e w'=>∃v,e=.returned v∧K (a.put N v) w'):if Region.wanted oi (yielded ops a.tmps)=true then Oper.wp P oi a w K Q else K (a.put N undef) w:=by
 refine alm f args hw hN ?_ h
 have he:=U6 hf hname hb args w
 unfold execOp
 simp[hop,resolve,Deferred.ofValue,invoke,Act.eval,hargs,he]
theorem iU {rest:List Oper} {oi:Oper} {a:Act} {w:World} (N:Option Tmp) (hd:oi.dst=N) (hg:oi.guard=none) {f:FuncId} {fn:Func} {QU:Array Operand} {ts:Array TypeId} (hf:P.funcs[f]?=some fn) (hname:(fn.name== "runtime.NumGoroutine")=false) (hb:fn.body.isSome=true) (args:Array Value)
  (hop:oi.op=.call {callee:=.value (.func f),args:=QU,argTypes:=ts}) (hargs:QU.map a.eval=args)
  (h:Calls P f args w fun e w'=>∃v,e=.returned v∧wpList P ops Q rest (a.put N v) w'):wpList P ops Q (oi::rest) a w:=by
 refine wpList_plain hg fun K hK=>?_
 have he:=U6 hf hname hb args w
 have hrun:(execOp a.eval oi).run P w=.ok (.enter f args) w:=by
  unfold execOp
  simp[hop,resolve,Deferred.ofValue,invoke,Act.eval,hargs,he]
 unfold Oper.wp
 rw[hrun,Oper.upon_enter]
 refine h.mono fun e w'' hh=>?_
 obtain⟨v,rfl,hk⟩:=hh
 subst hd
 exact hK _ _ hk
theorem adt {oi:Oper} {N:Option Tmp} {a:Act} {w w1:World} {v:Value} {K:Act→World→Prop} (hw:Region.wanted oi (yielded ops a.tmps)=true) (hN:oi.dst=N) (hrun:(execOp a.eval oi).run P w=.ok (.value v) w1)
  (h:K (a.put N v) w1):if Region.wanted oi (yielded ops a.tmps)=true then Oper.wp P oi a w K Q else K (a.put N undef) w:=by
 rw[if_pos hw]
 subst hN
 unfold Oper.wp
 rw[hrun]
 exact h
theorem acS {oi:Oper} {a:Act} {w w1:World} {K:Act→World→Prop} (hw:Region.wanted oi (yielded ops a.tmps)=true) (hN:oi.dst=none) (hrun:(execOp a.eval oi).run P w=.ok .skip w1)
  (h:K a w1):if Region.wanted oi (yielded ops a.tmps)=true then Oper.wp P oi a w K Q else K (a.put none undef) w:=by
 rw[if_pos hw]
 unfold Oper.wp
 rw[hrun]
 show K (a.put oi.dst undef) w1
 rw[hN]
 exact h
theorem gZ (n:Int):IntKind.i64.wrap n=Go.RowKit.wrap64 n:=by unfold Go.RowKit.wrap64;exact IntKind.wrap_i64 n
theorem iK (n:Int):IntKind.i32.wrap n=Go.RowKit.wrap32 n:=by unfold Go.RowKit.wrap32;exact IntKind.wrap_i32 n
end
end
end Go.Proofs.ak.cO
namespace Go.Proofs.YtllcccekodcdmaaGreatDoor.Ms
open Go Go.RowKit Go.Proofs.ak.cO
section
section
variable {P:Program} {md:Region.Mode} {ops:Array Oper} {Q:Exit→Act→World→Prop} {S:World→Prop} {ds:List Nat} {fuel:Nat} {listed:Array Bool} {a:Act} {w:World} {R:Prop}
theorem pt {G:Prop} (h:R) (e:G=R:=by((try simp only[Act.put,List.setIfInBounds_toArray,List.set_cons_zero,List.set_cons_succ]);(try (with_reducible rfl)))):G:=e▸h
theorem dL (i:Nat) {oi:Oper} {v:Value} (h:R) (ho:ops.toList[i]?=some oi:=by exact rfl)
  (hs:Region.noSelect ops=true:=by kernel_rfl) (hf:Region.free md ops listed i=true:=by kernel_rfl) (hr:(Region.ready md ops listed).contains i=true:=by kernel_rfl)
  (hQ:∀c a w,Q (.panic c) (a.put oi.dst v) w→Q (.panic c) a w:=by exact fun _ _ _ h=>h) (hw:Region.wanted oi (yielded ops a.tmps)=true:=by exact rfl)
  (hv:∀w,S w→(execOp a.eval oi).run P w=.ok (.value v) w:=by(intro w hSw;(try dsimp only at hSw);go_simp;(try (with_reducible rfl)))) (hS:S w:=by assumption)
  (e:wpAnyH P md ops Q S fuel (listed.setIfInBounds i true) (a.put oi.dst v) w=R:=by((try simp only[Act.put,List.setIfInBounds_toArray,List.set_cons_zero,List.set_cons_succ]);(try (with_reducible rfl)))):wpAnyH P md ops Q S (fuel+1) listed a w :=
 wpAnyH_take (by rw[←qV];exact ho) hs hf hr hQ (.inl ⟨hw,hv⟩) hS (e▸h)
theorem BR (i:Nat) {oi:Oper} (h:R) (ho:ops.toList[i]?=some oi:=by exact rfl)
  (hs:Region.noSelect ops=true:=by kernel_rfl) (hf:Region.free md ops listed i=true:=by kernel_rfl) (hr:(Region.ready md ops listed).contains i=true:=by kernel_rfl)
  (hQ:∀c a w,Q (.panic c) (a.put oi.dst undef) w→Q (.panic c) a w:=by exact fun _ _ _ h=>h) (hw:Region.wanted oi (yielded ops a.tmps)=false:=by exact rfl) (hS:S w:=by assumption)
  (e:wpAnyH P md ops Q S fuel (listed.setIfInBounds i true) (a.put oi.dst undef) w=R:=by((try simp only[Act.put,List.setIfInBounds_toArray,List.set_cons_zero,List.set_cons_succ]);(try (with_reducible rfl)))):wpAnyH P md ops Q S (fuel+1) listed a w :=
 wpAnyH_take (by rw[←qV];exact ho) hs hf hr hQ (.inr ⟨hw,rfl⟩) hS (e▸h)
theorem rn (i:Nat) {o:Oper}
  (h:∀K':Act→World→Prop,Shut (∀a w,S w→(S w→wpAnyH P md ops Q S fuel (listed.setIfInBounds i true) a w)→K' a w)→if Region.wanted o (yielded ops a.tmps)=true then Oper.wp P o a w K' Q else K' (a.put o.dst undef) w)
  (ho:ops.toList[i]?=some o:=by exact rfl) (hr:Region.ready md ops listed=[i]:=by kernel_rfl):wpAnyH P md ops Q S (fuel+1) listed a w :=
 wpAnyH_ready hr (by simp) (AllReadyH.cons (by rw[←qV];exact ho) h AllReadyH.nil)
theorem ji {X K:Act→World→Prop} (hK:Shut (∀a w,S w→(S w→X a w)→K a w)) (h:S w→R) (hs:S w:=by go_keep)
 (e:X a w=R:=by((try simp only[Act.put,List.setIfInBounds_toArray,List.set_cons_zero,List.set_cons_succ]);(try (with_reducible rfl)))):K a w:=hK.o _ _ hs fun s=>e▸h s
theorem lX {n:Nat} (h:Q .normal a w) (hr:Region.ready md ops listed=[]:=by kernel_rfl):wpAnyH P md ops Q S n listed a w:=wpAnyH_done hr h n
theorem H_ (S:World→Prop) {id:Nat} (h:S w.drew→wpAnyH P .any ops Q S ops.size (Array.replicate ops.size false) a w.drew) (hm:P.follows .mixedOrders=true:=by kernel_rfl) (hS:S w.drew:=by go_keep) :
 (Code.region id ops true).wp P Q a w:=wp_region_held_drew hm hS h
theorem jS (i:Nat) {oi:Oper} {v:Value} (h:R) (ho:ops.toList[i]?=some oi:=by exact rfl)
  (hc:(Region.noSelect ops&&Region.free md ops listed i&&(Region.ready md ops listed).contains i&&Region.xB md ops listed&&Region.Px md ops listed ds i)=true:=by kernel_rfl)
  (hQ:∀c a w,Q (.panic c) (a.put oi.dst v) w→Q (.panic c) a w:=by exact fun _ _ _ h=>h) (hw:Region.wanted oi (yielded ops a.tmps)=true:=by exact rfl)
  (hv:∀w,S w→(execOp a.eval oi).run P w=.ok (.value v) w:=by(intro w hSw;(try dsimp only at hSw);go_simp;(try (with_reducible rfl)))) (hS:S w:=by assumption)
  (e:aW P md ops Q S ds fuel (listed.setIfInBounds i true) (a.put oi.dst v) w=R:=by((try simp only[Act.put,List.setIfInBounds_toArray,List.set_cons_zero,List.set_cons_succ]);(try (with_reducible rfl)))):aW P md ops Q S ds (fuel+1) listed a w:=by
 simp only[Bool.and_eq_true]at hc
 obtain⟨⟨⟨⟨h1,h2⟩,h3⟩,h4⟩,h5⟩:=hc
 exact oO (by rw[←qV];exact ho) h1 h2 h3 h4 h5 hQ (.inl ⟨hw,hv⟩) hS (e▸h)
theorem EJ (i:Nat) {oi:Oper} {v:Value} (h:R) (ho:ops.toList[i]?=some oi:=by exact rfl)
  (hc:(Region.noSelect ops&&Region.free md ops listed i&&(Region.ready md ops listed).contains i)=true:=by kernel_rfl)
  (hQ:∀c a w,Q (.panic c) (a.put oi.dst v) w→Q (.panic c) a w:=by exact fun _ _ _ h=>h) (hw:Region.wanted oi (yielded ops a.tmps)=true:=by exact rfl)
  (hv:∀w,(execOp a.eval oi).run P w=.ok (.value v) w:=by(intro w;go_simp;(try (with_reducible rfl))))
  (e:aW P md ops Q S ds fuel (listed.setIfInBounds i true) (a.put oi.dst v) w=R:=by((try simp only[Act.put,List.setIfInBounds_toArray,List.set_cons_zero,List.set_cons_succ]);(try (with_reducible rfl)))):aW P md ops Q S ds (fuel+1) listed a w:=by
 simp only[Bool.and_eq_true]at hc
 obtain⟨⟨h1,h2⟩,h3⟩:=hc
 have hi:ops[i]?=some oi:=by rw[←qV];exact ho
 exact qg hi (Region.noSelect_spec h1) hQ fuel listed a w (Region.free_spec hi h2) (by simpa using h3) (.inl ⟨hw,hv⟩) (e▸h)
theorem ln (i:Nat) {o:Oper}
  (h:∀K':Act→World→Prop,Shut (∀a w,S w→(S w→aW P md ops Q S ds fuel (listed.setIfInBounds i true) a w)→K' a w)→if Region.wanted o (yielded ops a.tmps)=true then Oper.wp P o a w K' Q else K' (a.put o.dst undef) w)
  (ho:ops.toList[i]?=some o:=by exact rfl) (hr:Region.ready md ops listed=[i]:=by kernel_rfl) (hd:i∉ds:=by decide) :
  aW P md ops Q S ds (fuel+1) listed a w :=
 gy hr (by simp) (dO.cons (by rw[←qV];exact ho) hd h dO.nil)
theorem PG (i:Nat) {o:Oper}
  (h:∀K':Act→World→Prop,Shut (∀a w,aW P md ops Q S ds fuel (listed.setIfInBounds i true) a w→K' a w)→if Region.wanted o (yielded ops a.tmps)=true then Oper.wp P o a w K' Q else K' (a.put o.dst undef) w)
  (ho:ops.toList[i]?=some o:=by exact rfl) (hr:Region.ready md ops listed=[i]:=by kernel_rfl) (hd:i∈ds:=by decide) :
  aW P md ops Q S ds (fuel+1) listed a w :=
 gy hr (by simp) (dO.CV (by rw[←qV];exact ho) hd h dO.nil)
theorem Qe {X K:Act→World→Prop} (hK:Shut (∀a w,X a w→K a w)) (h:R)
 (e:X a w=R:=by((try simp only[Act.put,List.setIfInBounds_toArray,List.set_cons_zero,List.set_cons_succ]);(try (with_reducible rfl)))):K a w:=hK.o _ _ (e▸h)
theorem uJ {n:Nat} (h:Q .normal a w) (hr:Region.ready md ops listed=[]:=by kernel_rfl):aW P md ops Q S ds n listed a w:=xg hr h n
theorem lgo (ds:List Nat) (S:World→Prop) {id:Nat} (h:S w.drew→aW P .any ops Q S ds ops.size (Array.replicate ops.size false) a w.drew) (hm:P.follows .mixedOrders=true:=by kernel_rfl) (hS:S w.drew:=by go_keep) :
 (Code.region id ops true).wp P Q a w:=yB hm hS h
end
end
end Go.Proofs.YtllcccekodcdmaaGreatDoor.Ms
namespace Go.Proofs.ak.aT
open Go.RowKit
section
namespace Kd
def raw (sz:Nat):Kd (List Value) where
 sz:=sz
 E:=[]
 K:=fun _ x cs=>cs=x∧cs.length=sz∧∀u∈cs,u.oneCell'=true
 M:=fun _ _ _ x cs=>cs=x∧cs.length=sz∧∀u∈cs,u.oneCell'=true
 qB:=fun h=>h.2.1
 qU:=fun h=>h.2.2
 mX:=fun _ h=>h
 jW:=fun h=>h
 jX:=fun _ h=>h
 jT:=fun h=>h
 oq:=fun _ h=>h
 mZ:=fun _ h=>h
section
variable {α β:Type} {d:Kd α} {d':Kd β} {e e':Nat} {w w1 W:World} {base b:Nat} {ok ok' okv oku:Nat→Prop} {u v:Value} {xs:List α} {ys:List β}
theorem aee (hE:d.E=[]) (h:d.R e w base ok v xs):d.R e w base (fun k=>some k=v.ownBlock) v xs:=by
 obtain⟨h0,inner,ho,hr⟩:=h
 refine⟨fun k hk=>hk.symm,inner,ho,hr.AZ (fun p c hp=>d.jX (fun k hk=>?_) (d.jT hp))⟩
 obtain⟨_,_,_,q,hq,_⟩:=hk
 rw[hE]at hq
 cases hq
end
section
variable {α β:Type} {d:Kd α} {d':Kd β} {e e' g:Nat} {w w1 W:World} {base b:Nat} {ok ok' okv oku:Nat→Prop} {u v:Value} {xs:List α} {ys:List β}
end
section
variable {P:Program} {ops:Array Oper} {rest:List Oper} {o:Oper} {a:Act} {Q:Exit→Act→World→Prop} {Kc:Act→World→Prop} {α:Type}
end
section
variable {α β:Type} {d:Kd α} {e e' g n cap:Nat} {w w1 W:World} {base:Nat} {ok ok' oki iR:Nat→Prop} {u v:Value} {xs:List α} {i:Int} {c:List Value}
end
section
variable {P:Program} {ops:Array Oper} {rest:List Oper} {o:Oper} {a:Act} {Q:Exit→Act→World→Prop} {α:Type}
end
end Kd
end
section
namespace Kd
structure Heap {α:Type} (d:Kd α):Prop where
 K:∀{w w1:World} {x:α} {cs:List Value},(∀k,k<w.heap.size→w1.heap[k]?=w.heap[k]?)→d.K w x cs→d.K w1 x cs
theorem XV {w w1:World} (hb:∀k,k<w.heap.size→w1.heap[k]?=w.heap[k]?) {a:Addr} {v:Value} (h:w.cell? a=some v):w1.cell? a=some v:=by
 have:=hb a.block (fA w a h)
 simpa[World.cell?,this]using h
theorem Heap.C {α:Type} {d:Kd α} (hd:Heap d) {w w1:World} {A:Option Addr} {n:Nat} {xs:List α} (hb:∀k,k<w.heap.size→w1.heap[k]?=w.heap[k]?) (h:d.C w A n xs):d.C w1 A n xs :=
 ⟨h.1,h.2.1,fun hn=>by
   obtain⟨ad,e,hc⟩:=h.2.2 hn
   refine⟨ad,e,fun j p hj=>?_⟩
   obtain⟨c,hs,hr,hcell⟩:=hc j p hj
   exact⟨c,hs,hd.K hb hr,fun i u hu=>XV hb (hcell i u hu)⟩⟩
theorem Gn (k:IntKind):Heap (Kd.int k):=⟨fun _ h=>h⟩
theorem OV:Heap Kd.string:=⟨fun _ h=>h⟩
theorem Sr {α:Type} {d:Kd α} (e:Nat) (hd:Heap d):Heap (slice e d):=⟨by
 rintro w w1 x cs hb ⟨A,c,rfl,hl,hr⟩
 exact⟨A,c,rfl,hl,hd.C hb hr⟩⟩
theorem xM {α β:Type} {a:Kd α} {b:Kd β} (ha:Heap a) (hb':Heap b):Heap (pair a b):=⟨by
 rintro w w1 x cs hb ⟨c0,c1,rfl,h0,h1⟩
 exact⟨c0,c1,rfl,ha.K hb h0,hb'.K hb h1⟩⟩
theorem OU {α β:Type} {d:Kd α} (f:β→α) (hd:Heap d):Heap (iso d f):=⟨fun hb h=>hd.K hb h⟩
theorem abD {α:Type} (sz:Nat) (E:List Nat):Heap (bot sz E:Kd α):=⟨fun _ h=>h⟩
theorem Jk {α:Type} {F:Kd α→Kd α} {sz:Nat} {E:List Nat} (hF:∀d,Heap d→Heap (F d)):∀n,Heap (upto F sz E n)
 |0=>abD sz E
 |n+1=>hF _ (Jk hF n)
theorem abE {α:Type} {F:Kd α→Kd α} {sz:Nat} {E:List Nat} {hs:∀n,(upto F sz E n).sz=sz} {hE:∀n q,q∈(upto F sz E n).E→q∈E} (hF:∀d,Heap d→Heap (F d)):Heap (fix F sz E hs hE):=⟨by
 rintro w w1 x cs hb ⟨n,h⟩
 exact⟨n,(Jk hF n).K hb h⟩⟩
section
variable {α:Type} {d:Kd α} {e base g n c:Nat} {ok:Nat→Prop} {w w0 W:World} {A:Option Addr} {xs:List α}
end
end Kd
end
section
def wB (P:World→Prop) (W:World) (ok:Nat→Prop):Prop:=∀W':World,(∀k,ok k→k<W.heap.size→W'.heap[k]?=W.heap[k]?)→P W'
theorem ae1 {W W1:World} {k:Nat} (h:W1.heap[k]?=W.heap[k]?) (hlt:k<W.heap.size):k<W1.heap.size:=by
 rw[Array.getElem?_eq_getElem hlt]at h
 exact(Array.getElem?_eq_some_iff.1 h).1
namespace wB
variable {P Q:World→Prop} {W W1:World} {ok ok':Nat→Prop}
theorem now (h:wB P W ok):P W:=h W (fun _ _ _=>rfl)
theorem mono (h:wB P W ok) (hok:∀k,ok k→ok' k):wB P W ok':=fun W' hW=>h W' (fun k hk hlt=>hW k (hok k hk) hlt)
theorem bound (h:wB P W ok):wB P W (fun k=>ok k∧k<W.heap.size):=fun W' hW=>h W' (fun k hk hlt=>hW k ⟨hk,hlt⟩ hlt)
theorem step (h:wB P W ok) (hm:∀k,ok k→k<W.heap.size→W1.heap[k]?=W.heap[k]?):wB P W1 ok:=fun W' hW=>h W' (fun k hk hlt=>(hW k hk (ae1 (hm k hk hlt) hlt)).trans (hm k hk hlt))
end wB
namespace Kd
def F {α:Type} (d:Kd α) (W:World) (ok:Nat→Prop) (A:Option Addr) (n:Nat) (xs:List α):Prop:=wB (fun W=>d.C W A n xs) W ok
def FK {α:Type} (d:Kd α) (W:World) (ok:Nat→Prop) (x:α) (c:List Value):Prop:=wB (fun W=>d.K W x c) W ok
section
variable {α β:Type} {d:Kd α} {e base n n' cc g N:Nat} {ok ok' iR S:Nat→Prop} {w w0 w1 W W1:World} {A A':Option Addr} {u v v1:Value} {xs:List α} {xs':List β} {d':Kd β} {x:α} {c:List Value}
theorem ET (h:F d W ok A n xs):d.C W A n xs:=wB.now h
theorem ZM (h:F d W ok A n xs) (hok:∀k,ok k→ok' k):F d W ok' A n xs:=wB.mono h hok
theorem ZN (h:F d W ok A n xs) (hm:∀k,ok k→k<W.heap.size→W1.heap[k]?=W.heap[k]?):F d W1 ok A n xs:=wB.step h hm
theorem xu (h:F d W ok A n xs) (hb:Below W.heap.size W W1):F d W1 ok A n xs:=ZN h (fun k _ hlt=>hb.block k hlt)
theorem qA (h:F d W ok A n xs) {p:Addr} (hok:∀k,ok k→k≠p.block) (u:Value):F d (W.setCell p u) ok A n xs:=ZN h (fun k hk _=>ku W p u k (hok k hk))
theorem akr (d:Kd α) (W:World) (ok:Nat→Prop):F d W ok none ([]:List α).length []:=fun W' _=>akp d W'
theorem C_F (hd:Heap d) (h:d.C w A n xs):F d w (fun k=>k<w.heap.size) A n xs:=fun _ hW=>hd.C (fun k hlt=>hW k hlt hlt) h
theorem ES (h:FK d W ok x c):d.K W x c:=wB.now h
theorem adM (h:FK d W ok x c) (hok:∀k,ok k→ok' k):FK d W ok' x c:=wB.mono h hok
theorem ER (h:FK d W ok x c):FK d W (fun k=>ok k∧k<W.heap.size) x c:=wB.bound h
theorem xq (h:FK d W ok x c) (hm:∀k,ok k→k<W.heap.size→W1.heap[k]?=W.heap[k]?):FK d W1 ok x c:=wB.step h hm
theorem adN (h:d.M W base ok x c):FK d W ok x c:=fun _ hW=>d.jW (Z4 h hW)
theorem aez (W:World) (g:Nat):∃W':World,(∀k,k≠g→W'.heap[k]?=W.heap[k]?)∧∀a:Addr,a.block=g→W'.cell? a=none:=by
 refine⟨{W with heap:=W.heap.setIfInBounds g (.cells #[] 0)},fun k hk=>by simp[Ne.symm hk],fun a ha=>?_⟩
 subst ha
 by_cases hlt:a.block<W.heap.size
 ·simp[World.cell?,hlt]
 ·simp[World.cell?,hlt]
end
end Kd
end
section
namespace Kd
def chunks (sz:Nat) (n:Nat) (inner:List Value):List (List Value):=(List.range n).map fun j=>(inner.drop (j*sz)).take sz
theorem mO (sz n:Nat) (inner:List Value):(chunks sz n inner).length=n:=by simp[chunks]
theorem XY {sz n:Nat} {inner:List Value} {j:Nat} (hj:j<n):(chunks sz n inner)[j]?=some ((inner.drop (j*sz)).take sz):=by simp[chunks,hj]
theorem FQ {sz n:Nat} {inner:List Value} {j:Nat} {c:List Value} (h:(chunks sz n inner)[j]?=some c):c=(inner.drop (j*sz)).take sz:=by
 have hj:j<n:=by have:=(List.getElem?_eq_some_iff.1 h).1;rwa [mO]at this
 rw[XY hj]at h
 injection h with h
 exact h.symm
theorem acJ {α:Type} {Rr:α→List Value→Prop} {sz:Nat} {xs:List α} {inner:List Value} (h:qG Rr sz xs inner) (hR:∀x c,Rr x c→c.length=sz∧∀u∈c,u.oneCell'=true):qG (fun x cs=>cs=x∧cs.length=sz∧∀u∈cs,u.oneCell'=true) sz (chunks sz xs.length inner) inner:=by
 refine⟨by rw[mO];exact h.1,fun j p hj=>?_⟩
 have hjl:j<xs.length:=by have:=(List.getElem?_eq_some_iff.1 hj).1;rwa [mO]at this
 have hp:=FQ hj
 exact⟨hp.symm,hR _ _ (h.2 j _ (gQ hjl))⟩
section
variable {α:Type} {d:Kd α} {e base n cc g:Nat} {ok ok' iR S:Nat→Prop} {w w1 W W1:World} {A:Option Addr} {u v v1:Value} {xs:List α} {x:α} {c:List Value}
theorem akq (h:F d W ok A n xs) (z:α) (i:Int) (h0:0≤i) (h1:i<n) :
  ∃ad c,A=some ad∧c.length=d.sz∧FK d W ok (xs.getD i.toNat z) c∧(∀j u,c[j]?=some u→W.cell? (ad.add (i.toNat*d.sz+j))=some u)∧(0<d.sz→ok ad.block):=by
 obtain⟨ad,c,rfl,hcl,hK,hcc⟩:=DJ (ET h) z i h0 h1
 have hin:0<d.sz→ok ad.block:=by
  intro hs
  by_cases hk:ok ad.block
  ·exact hk
  ·obtain⟨W',h2,h3⟩:=aez W ad.block
   obtain⟨ad',c',he,hcl',_,aik⟩:=DJ (h W' (fun k hk' _=>h2 k (fun e=>hk (e▸hk')))) z i h0 h1
   injection he with he
   subst he
   have h4:=aik 0 _ (gQ (by omega))
   rw[h3 _ (CP _ _)]at h4
   cases h4
 refine⟨ad,c,rfl,hcl,fun W' hW=>?_,hcc,hin⟩
 obtain⟨ad',c',he,hcl',hK',aik⟩:=DJ (h W' hW) z i h0 h1
 injection he with he
 subst he
 have hc:c=c':=by
  apply List.ext_getElem?
  intro j
  by_cases hj:j<d.sz
  ·have hb:W'.heap[ad.block]?=W.heap[ad.block]?:=by
    have h5:=hcc j _ (gQ (by omega))
    have h6:=fA W _ h5
    rw[CP]at h6
    exact hW _ (hin (by omega)) h6
   have h5:=hcc j _ (gQ (by omega))
   have h6:=aik j _ (gQ (by omega))
   have h7:W'.cell? (ad.add (i.toNat*d.sz+j))=W.cell? (ad.add (i.toNat*d.sz+j)):=by simp[World.cell?,CP,hb]
   rw[h7,h5]at h6
   rw[gQ (by omega),gQ (by omega)]
   exact h6
  ·rw[List.getElem?_eq_none (by omega),List.getElem?_eq_none (by omega)]
 rw[hc]
 exact hK'
def N {α:Type} (d:Kd α) (e:Nat) (w:World) (base:Nat) (ok:Nat→Prop) (v:Value) (xs:List α):Prop :=
 (∀k,v.ownBlock=some k→ok k)∧∃rows:List (List Value),rows.length=xs.length∧(raw d.sz).R e w base (fun k=>some k=v.ownBlock) v rows∧∀(j:Nat) (x:α) (c:List Value),xs[j]?=some x→rows[j]?=some c→FK d w (fun k=>ok k∧some k≠v.ownBlock) x c
theorem YN {sz:Nat} {rows:List (List Value)} (h:(raw sz).R e w base ok v rows):(raw sz).R e w base (fun k=>some k=v.ownBlock) v rows:=aee rfl h
theorem agb {sz:Nat} {rows:List (List Value)} (h:(raw sz).R e w base ok v rows):(raw sz).R e w base (fun _=>True) v rows:=gX h (fun _ _=>trivial)
theorem R_N (h:d.R e w base ok v xs):N d e w base ok v xs:=by
 obtain⟨h0,inner,ho,hr⟩:=h
 refine⟨h0,chunks d.sz xs.length inner,mO _ _ _,⟨fun k hk=>hk.symm,inner,by rw[mO];exact ho,acJ hr (fun x c hp=>⟨d.qB (d.jW hp),d.qU (d.jW hp)⟩)⟩,fun j x c hx hc=>?_⟩
 rw[FQ hc]
 exact adN (hr.2 j x hx)
theorem Z5 (d:Kd α) (e:Nat) (w:World) (base:Nat) (ok:Nat→Prop):N d e w base ok (.slice none 0 0) []:=R_N (aad _ _ _ _ _)
theorem EX (h:N d e w base ok v xs):∀k,v.ownBlock=some k→base≤k:=by
 obtain⟨_,rows,_,hR,_⟩:=h
 exact E5 hR
theorem Z7 (h:N d e w base ok v xs) (hm:∀k,ok k→k<w.heap.size→w1.heap[k]?=w.heap[k]?):N d e w1 base ok v xs:=by
 obtain⟨h0,rows,hl,hR,hf⟩:=h
 exact⟨h0,rows,hl,QS hR (fun k hk hlt=>hm k (h0 k hk.symm) hlt),fun j x c hx hc=>xq (hf j x c hx hc) (fun k hk hlt=>hm k hk.1 hlt)⟩
theorem J9 (h:N d e w base ok v xs) (hb:Below w.heap.size w w1):N d e w1 base ok v xs:=Z7 h (fun k _ hk=>hb.block k hk)
theorem J8 (h:N d e w base ok v xs) (o:Obj):N d e (w.alloc o) base ok v xs:=J9 h (nJ jc o)
theorem aea (h:N d e w base ok v xs):∃A c,v=.slice A xs.length c:=by
 obtain⟨_,rows,hl,hR,_⟩:=h
 obtain⟨A,c,he⟩:=oz hR
 exact⟨A,c,by rw[he,hl]⟩
theorem Oe {n c:Nat} (h:N d e w base ok (.slice A n c) xs):n=xs.length∧n≤c∧d.C w A xs.length xs:=by
 obtain⟨_,rows,hl,hR,hf⟩:=h
 obtain⟨hn,hc,hC⟩:=aae hR
 refine⟨by omega,hc,?_⟩
 rw[hl]at hC
 refine⟨rfl,hC.2.1,fun hp=>?_⟩
 obtain⟨ad,he,hcell⟩:=hC.2.2 hp
 refine⟨ad,he,fun j p hj=>?_⟩
 have hjl:j<rows.length:=by have:=(List.getElem?_eq_some_iff.1 hj).1;omega
 obtain⟨c',hcl,hK,hcc⟩:=hcell j _ (gQ hjl)
 have hk:=ES (hf j p _ hj (gQ hjl))
 refine⟨c',hcl,?_,hcc⟩
 rw[show c'=rows[j]from hK.1]
 exact hk
theorem Uy (h:N d e w base ok v xs):∃A c,v=.slice A xs.length c∧xs.length≤c∧d.C w A xs.length xs:=by
 obtain⟨A,c,rfl⟩:=aea h
 exact⟨A,c,rfl,(Oe h).2⟩
theorem N_F {n:Nat} (h:N d e w base ok (.slice A n cc) xs):F d w ok A n xs:=fun W' hW=>by
 have h2:=Oe (Z7 h hW)
 rw[h2.1]
 exact h2.2.2
end
end Kd
end
end Go.Proofs.ak.aT
namespace Go.Proofs.ak.aT
theorem qG.one {α:Type} {R:α→List Value→Prop} {ps:List α} {cs:List Value} {p:α} {v:Value} (hp:R p [v]) (h:qG R 1 ps cs):qG R 1 (p::ps) (v::cs):=by
 refine⟨by simp[h.1],fun j q hq=>?_⟩
 cases j with
 |zero =>
  simp only[List.getElem?_cons_zero,Option.some.injEq]at hq
  subst hq
  simpa using hp
 |succ j =>
  simp only[List.getElem?_cons_succ]at hq
  have h1:=h.2 j q hq
  simpa[Nat.mul_one]using h1
end Go.Proofs.ak.aT
namespace Go.Proofs.ak.aT
open Go.RowKit
section
section
variable {P:Program} {ops:Array Oper} {rest:List Oper} {o:Oper} {a:Act} {Q:Exit→Act→World→Prop} {W:World}
theorem yY (hw:Region.wanted o (yielded ops a.tmps)=true) (h:wpList P ops Q ({o with guard:=none}::rest) a W):wpList P ops Q (o::rest) a W:=by
 have h1:Region.wanted {o with guard:=none} (yielded ops a.tmps)=true:=rfl
 unfold wpList at h ⊢
 rw[if_pos h1]at h
 rw[if_pos hw]
 exact h
end
end
section
namespace Kd
section
variable {α:Type} {d:Kd α} {e base n cap g:Nat} {ok ok' iR:Nat→Prop} {w w1 W:World} {v v1:Value} {xs ys:List α}
theorem QJ {rows news:List (List Value)} (h0:∀k,v.ownBlock=some k→ok k) (hl:rows.length=xs.length) (hf:∀(j:Nat) (x:α) (c:List Value),xs[j]?=some x→rows[j]?=some c→FK d W (fun k=>ok k∧some k≠v.ownBlock) x c)
  (hl2:news.length=ys.length) (hf2:∀(j:Nat) (x:α) (c:List Value),ys[j]?=some x→news[j]?=some c→FK d W iR x c) (Lh:∀k,iR k→ok k∧some k≠v.ownBlock) (hfresh:∀k,W.heap.size≤k→ok k)
  (hR:(raw d.sz).R e w1 base (fun _=>True) v1 (rows++news)) (hg:W.grownBy w1 v.ownBlock) (hat:v1.ownBlock=v.ownBlock∨∃b,v1.ownBlock=some b∧W.heap.size≤b):N d e w1 base ok v1 (xs++ys):=by
 have hne:∀k,some k≠v.ownBlock→k<W.heap.size→some k≠v1.ownBlock:=by
  intro k hk hlt
  rcases hat with hat|⟨b,hb,hle⟩
  ·rw[hat];exact hk
  ·rw[hb]
   intro he
   injection he with he
   omega
 have step:∀{x:α} {c:List Value} {o:Nat→Prop},FK d W o x c→(∀k,o k→ok k∧some k≠v.ownBlock)→FK d w1 (fun k=>ok k∧some k≠v1.ownBlock) x c:=by
  intro x c o hq ho
  exact adM (xq (ER hq) (fun k hk hlt=>hg.block k hlt (ho k hk.1).2)) (fun k hk=>⟨(ho k hk.1).1,hne k (ho k hk.1).2 hk.2⟩)
 refine⟨fun k hk=>?_,rows++news,by rw[dY,dY,hl,hl2],YN hR,fun j x c hx hc=>?_⟩
 ·rcases hat with hat|⟨b,hb,hle⟩
  ·exact h0 k (hat▸hk)
  ·rw[hb]at hk
   injection hk with hk
   exact hfresh k (by omega)
 ·rcases Nat.lt_or_ge j xs.length with hlt|hge
  ·rw[List.getElem?_append_left hlt]at hx
   rw[List.getElem?_append_left (by omega)]at hc
   exact step (hf j x c hx hc) (fun _ hk=>hk)
  ·rw[List.getElem?_append_right hge]at hx
   rw[List.getElem?_append_right (by omega),hl]at hc
   exact step (hf2 _ x c hx hc) Lh
theorem aht {x:α} {c:List Value} (h:FK d W ok x c):c=c∧c.length=d.sz∧∀u∈c,u.oneCell'=true:=⟨rfl,d.qB (ES h),d.qU (ES h)⟩
end
section
variable {P:Program} {ops:Array Oper} {rest:List Oper} {o:Oper} {a:Act} {Q:Exit→Act→World→Prop} {Kc:Act→World→Prop} {α:Type}
theorem zD (d:Kd α) {w0 W:World} (base:Nat) (hgd:o.guard=none) (s x:Operand) (t e:TypeId) (z:Value) (bytes:Nat)
  (ho:o.op=.call {callee:=.builtin .append,args:=#[s,x],argTypes:=#[t,t]})
  (ht:P.underlying t=some (.slice e)) (hinfo:(P.info? e).map (fun i=>(i.zero,i.size,i.bytes))=some (some z,d.sz,bytes)) (hz:z.cells.size=d.sz) (hs0:0<d.sz) (hb0:0<bytes)
  (v:Value) (xs:List α) (p:α) (cs:List Value) (ok iR:Nat→Prop) (hs:a.eval s=v) (hx:a.eval x=.slice (some ⟨W.heap.size,0,none⟩) 1 1) (hp:FK d W iR p cs) (Lh:∀k,iR k→ok k∧some k≠v.ownBlock) (hfresh:∀k,W.heap.size≤k→ok k)
  (HO:N d e W base ok v xs) (HB:Below base w0 W) (hbase:base≤W.heap.size) (hl:(xs.length+1)*bytes≤140737488355328)
  (h:∀v1 w1,N d e w1 base ok v1 (xs++[p])→Below base w0 w1→W.grownBy w1 v.ownBlock→(v1.ownBlock=v.ownBlock∨∃b,v1.ownBlock=some b∧W.heap.size≤b)→wpList P ops Q rest (a.put o.dst v1) w1) :
  wpList P ops Q (o::rest) a (W.alloc (.cells cs.toArray e)):=by
 obtain⟨h0,rows,hlr,hR,hf⟩:=HO
 refine zF (raw d.sz) base hgd s x t e z bytes ho ht hinfo hz hs0 hb0 v rows cs cs (fun _=>True) (fun _=>False) hs hx (aht hp) (fun _ hk=>hk.elim) (fun _ _=>trivial) (agb hR) HB hbase (by rw[hlr];exact hl) ?_
 intro v1 w1 hr hb hg hat
 exact h v1 w1 (QJ h0 hlr hf (ys:=[p]) (news:=[cs]) rfl (fun j y c hy hc=>by
  rcases j with _|j
  ·simp only[List.getElem?_cons_zero,Option.some.injEq]at hy hc
   rw[←hy,←hc];exact hp
  ·simp at hy) Lh hfresh hr hg hat) hb hg hat
end
end Kd
end
end Go.Proofs.ak.aT
section
namespace Go.Proofs.ak.lQ
open Go.RowKit Go.Proofs.ak.aT
namespace Kd
open Go.Proofs.ak.aT.Kd
end Kd
namespace Kd
open Go.Proofs.ak.aT.Kd
section
variable {α:Type} {d:Kd α} {e base g N:Nat} {ok:Nat→Prop} {W w1:World} {u v:Value} {xs:List α}
end
end Kd
theorem mW (k k':IntKind) (x y:Int):Builtin.max2 (.int k x) (.int k' y)=pure (.int k (if x<y then y else x)):=by simp only[Builtin.max2,gt_iff_lt]
theorem qc (ats:Array TypeId) (ty:TypeId) (a b:Value):Builtin.max_ ats ty #[a,b]=(Builtin.max2 a b >>= fun s=>pure s):=by simp only[Builtin.max_,List.foldlM_cons,List.foldlM_nil]
end Go.Proofs.ak.lQ
namespace Go.Proofs.ak.aT
open Go.RowKit
section
variable {P:Program} {ops:Array Oper} {rest:List Oper} {o:Oper} {a:Act} {Q:Exit→Act→World→Prop} {W:World}
theorem dG {f:FuncId} {QU:Array Operand} {ts:Array TypeId} (_ho:o.op=.call {callee:=.value (.func f),args:=QU,argTypes:=ts}) (h:wpList P ops Q (o::rest) a W):wpList P ops Q (o::rest) a W:=h
theorem jH {b:Builtin} {xs:Array Operand} {ts:Array TypeId} (_ho:o.op=.call {callee:=.builtin b,args:=xs,argTypes:=ts}) (h:wpList P ops Q (o::rest) a W):wpList P ops Q (o::rest) a W:=h
end
def mx (a b:Int):Int:=if a<b then b else a
namespace Kd
section
variable {α:Type} {d:Kd α} {e base:Nat} {ok:Nat→Prop} {W w1:World} {v:Value} {xs:List α}
end
section
variable {α:Type} {d:Kd α} {e base g n cap:Nat} {ok oki iR:Nat→Prop} {W:World} {xs:List α} {i:Int} {c:List Value}
end
section
variable {α:Type} {d:Kd α} {e base b b' g N:Nat} {ok ok1:Nat→Prop} {W W2 w1:World} {u v:Value} {xs ys:List α} {S:Nat→Prop}
end
end Kd
end Go.Proofs.ak.aT
namespace Go.Proofs.ak.aT
open Go.RowKit
namespace Kd
section
variable {α β:Type} {d:Kd α} {e base base' n m c g N' lo hi:Nat} {ok ok' S:Nat→Prop} {w W w1:World} {A:Option Addr} {ad:Addr} {u v v1:Value} {xs:List α}
end
end Kd
end Go.Proofs.ak.aT
end
