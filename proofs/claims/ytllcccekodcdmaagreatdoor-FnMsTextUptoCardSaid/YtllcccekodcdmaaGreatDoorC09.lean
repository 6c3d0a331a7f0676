import Derived.IntWalk
import Derived.Laws.BitsAllLaws
import Derived.Laws.RangeAny
import Derived.Outline
import GoSem.PinnedTables
import Derived.Test.YtllcccekodcdmaaGreatDoorC05
set_option linter.unusedVariables false
set_option linter.unusedSimpArgs false
set_option maxRecDepth 100000
set_option maxHeartbeats 32000000
open Go.Proofs.Tryz
namespace Go.Proofs.YtllcccekodcdmaaGreatDoor.Ms
def cZ (c:UInt8):List UInt8→List (List UInt8)
 |[]=>[[]]
 |a::l=>if a=c then[]::cZ c l else match cZ c l with
  |[]=>[[a]]
  |p::ps=>(a::p)::ps
theorem uN (c:UInt8):∀l,cZ c l≠[]
 |[]=>by simp[cZ]
 |a::l=>by
  unfold cZ
  split
  ·simp
  ·split<;>simp
theorem yh (c:UInt8):∀l,c∉l→cZ c l=[l]
 |[],_=>rfl
 |a::l,h=>by
  have h1:a≠c:=fun e=>h (by simp[e])
  have h2:c∉l:=fun e=>h (by simp[e])
  unfold cZ
  rw[if_neg h1,yh c l h2]
theorem yg (c:UInt8):∀x y,c∉x→cZ c (x++c::y)=x::cZ c y
 |[],y,_=>by
  show cZ c (c::y)=_
  conv=>lhs;unfold cZ
  rw[if_pos rfl]
 |a::x,y,h=>by
  have h1:a≠c:=fun e=>h (by simp[e])
  have h2:c∉x:=fun e=>h (by simp[e])
  show cZ c (a::(x++c::y))=_
  conv=>lhs;unfold cZ
  rw[if_neg h1,yg c x y h2]
theorem rO (c:UInt8):∀l,(cZ c l).length=(l.filter (fun a=>a=c)).length+1
 |[]=>rfl
 |a::l=>by
  have ih:=rO c l
  unfold cZ
  by_cases h:a=c
  ·rw[if_pos h,d_,ih,List.filter_cons_of_pos (by simpa using h),d_]
  ·rw[if_neg h,List.filter_cons_of_neg (by simpa using h),←ih]
   split<;>rename_i e
   ·exact absurd e (uN c l)
   ·rw[e];rfl
def pq (c:UInt8):Bool:=(48≤c&&c≤57) || (65≤c&&c≤90) || (97≤c&&c≤122) || c==95
def yX (c:UInt8):Bool:=48≤c&&c≤57
def iI (l:List UInt8):Bool:=l.all pq
def iP:List UInt8→Bool
 |[]=>false
 |a::l=>!yX a&&iI (a::l)
def jo (l:List UInt8):Bool:=!l.isEmpty&&iI l
def je:List UInt8→Bool
 |[]=>false
 |a::l=>a==47&&(l.isEmpty || (cZ 47 l).all jo)
def g_ (l:List UInt8):Bool:=decide (l.length≤255)&&decide (2≤(cZ 46 l).length)&&(cZ 46 l).all iP
def nO (l:List UInt8):Bool:=decide (l.length≤255)&&iP l
def rH:Bool→List UInt8→Bool
 |b,[]=>!b
 |b,c::l=>if c=47 then !b&&rH true l else pq c&&rH false l
theorem wW:∀(l:List UInt8) (b:Bool),rH b l=match cZ 47 l with
  |[]=>false
  |p::ps=>(!b || !p.isEmpty)&&iI p&&ps.all jo
 |[],b=>by cases b<;>rfl
 |c::l,b=>by
  unfold rH cZ
  by_cases h:c=47
  ·rw[if_pos h,if_pos h,wW l true]
   rcases e:cZ 47 l with _|⟨p,ps⟩
   ·exact absurd e (uN 47 l)
   ·cases b<;>simp[iI,jo]
  ·rw[if_neg h,if_neg h,wW l false]
   rcases e:cZ 47 l with _|⟨p,ps⟩
   ·exact absurd e (uN 47 l)
   ·cases b<;>simp[iI,Bool.and_assoc]
theorem wV (l:List UInt8):rH true l=(cZ 47 l).all jo:=by
 rw[wW]
 rcases e:cZ 47 l with _|⟨p,ps⟩
 ·exact absurd e (uN 47 l)
 ·simp[jo]
theorem zk:∀(l:List UInt8) (b:Bool),(l++[47]).length=l.length+1→rH b (l++[47])=false
 |[],b,_=>by cases b<;>rfl
 |c::l,b,_=>by
  rw[lF]
  unfold rH
  split
  ·rw[zk l true (by simp)];simp
  ·rw[zk l false (by simp)];simp
end Go.Proofs.YtllcccekodcdmaaGreatDoor.Ms
namespace Go.Proofs.YtllcccekodcdmaaGreatDoor.Ms
open Go Go.RowKit Go.Proofs.ak.aT
def Qs (c:UInt8):List UInt8→Int
 |[]=>-1
 |a::l=>if a=c then 0 else if Qs c l<0 then -1 else Qs c l+1
theorem abW (c:UInt8):∀l,c∉l→Qs c l=-1
 |[],_=>rfl
 |a::l,h=>by
  have h1:a≠c:=fun e=>h (by simp[e])
  have h2:c∉l:=fun e=>h (by simp[e])
  unfold Qs
  rw[if_neg h1,abW c l h2];rfl
theorem abV (c:UInt8):∀x y,c∉x→Qs c (x++c::y)=x.length
 |[],y,_=>by show Qs c (c::y)=_;unfold Qs;rw[if_pos rfl];rfl
 |a::x,y,h=>by
  have h1:a≠c:=fun e=>h (by simp[e])
  have h2:c∉x:=fun e=>h (by simp[e])
  show Qs c (a::(x++c::y))=_
  have:=abV c x y h2
  unfold Qs
  rw[if_neg h1,this,if_neg (by omega),d_];omega
theorem ai9 (x:List UInt8) (k:Nat) (h:k<x.length):(x.drop k).take 1=[x[k]]:=by
 rw[List.drop_eq_getElem_cons h];rfl
theorem acC (c:UInt8) (x:List UInt8) (k:Nat) (h:k<x.length) (hn:c∉x.take k) (hc:x[k]≠c):c∉x.take (k+1):=by
 rw[lu h,List.mem_append]
 rintro(h1|h1)
 ·exact hn h1
 ·exact hc (List.mem_singleton.1 h1).symm
theorem O8 (x:List UInt8) (c:UInt8) (hl:x.length≤1000000) (w:World) :
  uQ 205 #[.string (bs x),.string (bs [c])] w (.int .i64 (Qs c x)):=by
 have hsz:(bs x).size=x.length:=aH x
 have hs1:(bs [c]).size=1:=aH _
 obtain⟨n,hn⟩:∃n,x.length=n:=⟨_,rfl⟩
 have HN:=ah hn
 rw[hn]at hsz
 go_enter func205,ntmps205
 go_wp2
 go_loopw [5] (fun t wr=>∃k:Nat,k≤n∧t=.int .i64 k∧aj (c∉x.take k)∧wr=w) (fun t _=>n-(intOf t).toNat)
 case atStart=>exact⟨0,jf _,rfl,⟨by simp⟩,rfl⟩
 case round =>
  obtain⟨k,hk,rfl,HC,rfl⟩:=hrel
  by_cases hlt:k<n
  ·have hkx:k<x.length:=by omega
   have hd:decide (((k:Int)+1)≤(n:Int))=true:=by simp;omega
   have he:(bs x).extract k (k+1)=bs [x[k]]:=by rw[gY,Nat.add_sub_cancel_left,ai9 x k hkx]
   have HCK:=ah (fun h=>acC c x k hkx HC.o h)
   by_cases hc:x[k]=c
   ·have HCC:=ah hc
    rw[hc]at he
    go_wp2
    go_ret
    have e1:Qs c x=(k:Int):=by
     have h2:k<x.length:=by rw[HN.o];exact hlt
     have h3:=abV c (x.take k) (x.drop (k+1)) HC.o
     rw[←HCC.o,List.length_take,Nat.min_eq_left (Nat.le_of_lt h2)]at h3
     conv=>lhs;rw[←List.take_append_drop k x,List.drop_eq_getElem_cons h2,←HCC.o]
     exact h3
    exact⟨by rw[e1];rfl,rfl⟩
   ·have hne:((bs [x[k]]).toList==(bs [c]).toList)=false:=by rw[bH,bH];simpa using hc
    have apF:=ah (HCK.o hc)
    go_wp2
    go_roundw
    case rel=>exact⟨k+1,hlt,by go_num,⟨apF.o⟩,by first|rfl|trivial⟩
    case measure=>simp[intOf];omega
  ·have hd:decide (((k:Int)+1)≤(n:Int))=false:=by simp;omega
   have hke:n=k:=by omega
   subst hke
   go_wp2
   go_ret
   exact⟨by rw[abW c x (by have:=HC.o;rwa [kT (by rw[HN.o];exact bW)]at this)];rfl,rfl⟩
theorem ai1:(prog.info? 9).map (fun i=>(i.zero,i.size,i.bytes))=some (some (.string ⟨#[]⟩),1,16):=by kernel_rfl
theorem vS {ops:Array Oper} {rest:List Oper} {o:Oper} {a:Act} {Q:Exit→Act→World→Prop} (hgd:o.guard=none) (s x:Operand)
  (ho:o.op=.call {callee:=.builtin .append,args:=#[s,x],argTypes:=#[119,119]}) (base:Nat) (W0 W:World) (v:Value) (k:Nat) (xs:List Value) (y:bG) (hs:a.eval s=v) (hx:a.eval x=.slice (some ⟨W.heap.size,0,none⟩) 1 1)
  (HO:W.ownsRow base 9 1 v k xs) (HB:Below base W0 W) (hbase:base≤W.heap.size) (hk:k≤1000000)
  (h:∀v1 w1,w1.ownsRow base 9 1 v1 (k+1) (xs++[.string y])→Below base W0 w1→wpList prog ops Q rest (a.put o.dst v1) w1) :
  wpList prog ops Q (o::rest) a (W.alloc (.cells #[.string y] 9)):=by
 obtain⟨i0,hi,hzz⟩:=Option.map_eq_some_iff.1 ai1
 simp only[Prod.mk.injEq]at hzz
 obtain⟨hz0,hz1,hz2⟩:=hzz
 refine wpList_append_own (w:=W.alloc (.cells #[.string y] 9)) hgd s x 119 ho base 9 i0 _ 1 16 underlying119 hi hz0 hz1 hz2 rfl (by decide) v k xs hs (HO.alloc _) ⟨W.heap.size,0,none⟩ 1 1 [.string y] hx rfl
  (by simpa using World.news_of_block (cs:=#[.string y]) (t:=9) (fr:=(0,0)) (heap_alloc_new W (.cells #[.string y] 9))) (fun u hu=>by cases List.mem_singleton.1 hu;rfl) (by simp only[maxLen];omega) (by omega) (by simp;omega) ?_
 intro v' w' h1 h2 _
 exact h v' w' h1 ((HB.alloc hbase _).grown h2 (by simp;omega) (rE HO))
def sv (l:List (List UInt8)):List Value:=l.map fun x=>.string (bs x)
theorem Xc {w:World} {B k:Nat} {v:Value} {l:List (List UInt8)} (h:w.ownsRow B 9 1 v k (sv l)) (hk:l.length=k) (h0:0<k) :
  ∃g cap cur,v=.slice (some ⟨g,0,none⟩) k cap∧w.heap[g]?=some (.cells cur 9 (0,0))∧∀i (h:i<l.length),cur[i]?=some (.string (bs l[i])):=by
 rcases h.2 with ⟨_,e⟩|⟨g,cap,cur,rfl,-,hg,-,-,-,h4⟩
 ·omega
 ·refine⟨g,cap,cur,rfl,hg,fun i hi=>?_⟩
  have h5:(sv l)[i]?=some (.string (bs l[i])):=by simp[sv,hi]
  rw[←h4,List.getElem?_take,if_pos (by omega)]at h5
  simpa using h5
def CG (c:UInt8) (x:List UInt8) (w:World) (e:Ending) (w':World):Prop :=
 ∃g cap cur,e=.returned (.slice (some ⟨g,0,none⟩) (cZ c x).length cap)∧w'.heap[g]?=some (.cells cur 9 (0,0))∧(∀i (h:i<(cZ c x).length),cur[i]?=some (.string (bs (cZ c x)[i])))∧Below w.heap.size w w'
theorem EI (c:UInt8):∀l:List UInt8,Qs c l=-1∧c∉l∨∃k:Nat,Qs c l=k∧k<l.length∧c∉l.take k∧l[k]?=some c
 |[]=>.inl ⟨rfl,by simp⟩
 |a::l=>by
  by_cases h:a=c
  ·exact .inr ⟨0,by unfold Qs;rw[if_pos h];rfl,by simp,by simp,by simp[h]⟩
  ·rcases EI c l with ⟨h1,h2⟩|⟨k,h1,h2,h3,h4⟩
   ·exact .inl ⟨by unfold Qs;rw[if_neg h,h1];rfl,by simp[h2,Ne.symm h]⟩
   ·exact .inr ⟨k+1,by unfold Qs;rw[if_neg h,h1,if_neg (by omega)];rfl,by simp;omega,by simp[h3,Ne.symm h],by simpa using h4⟩
theorem P_ (x:List UInt8) (c:UInt8) (hl:x.length≤1000000) (w:World):Calls prog 203 #[.string (bs x),.string (bs [c])] w (CG c x w):=by
 have hs1:(bs [c]).size=1:=aH _
 have HX:=ah hl
 go_enter func203,ntmps203
 go_wp2
 go_loopw [0,5] (fun s o wr=>∃(y:List UInt8) (k:Nat) (d:List (List UInt8)),s=.string (bs y)∧y.length≤1000000∧k+y.length≤x.length∧aj (d.length=k∧cZ c x=d++cZ c y∧wr.ownsRow w.heap.size 9 1 o k (sv d)∧Below w.heap.size w wr)) (fun s _ _=>match s with| .string b=>b.size| _=>0)
 case atStart=>exact⟨x,0,[],rfl,hl,by omega,⟨rfl,rfl,World.ownsRow_nil _ _ _ _,jc⟩⟩
 case round =>
  obtain⟨y,k,d,rfl,hy,hky,HR⟩:=hrel
  have II:=ah (O8 y c hy)
  have hsz:(bs y).size=y.length:=aH y
  rcases EI c y with ⟨h1,h2⟩|⟨j,h1,h2,h3,h4⟩
  ·rw[h1]at II
   have H2:=ah h2
   go_wp2_with (first
    |(go_at_call 205;refine gU (II.o _) ?_)
    |(at_builtin;refine vS rfl (.tmp 42) (.tmp 44) rfl w.heap.size w _ _ k _ _ rfl rfl HR.o.2.2.1 HR.o.2.2.2 (by have:=HR.o.2.2.2.size;omega) (by omega) ?_;intro v1 w2 h1 h2;have OWN:=ah h1;have BN:=ah h2;clear h1 h2))
   go_ret
   have e1:cZ c x=d++[y]:=by rw[HR.o.2.1,yh c y H2.o]
   have e2:(d++[y]).length=k+1:=by rw[dY,HR.o.1];rfl
   obtain⟨g,cap,cur,r1,r2,r3⟩:=Xc (l:=d++[y]) (by have:=OWN.o;rwa [show sv d++[.string (bs y)]=sv (d++[y]) by simp[sv]]at this) e2 (by omega)
   unfold CG
   rw[e1]
   exact⟨g,cap,cur,by rw[e2];exact congrArg Ending.returned r1,r2,r3,BN.o⟩
  ·rw[h1]at II
   obtain⟨m,hm⟩:∃m,y.length=m:=⟨_,rfl⟩
   have hj:j<y.length:=h2
   have e1:(bs y).extract 0 j=bs (y.take j):=by rw[gY];simp
   have e2:(bs y).extract (j+1) m=bs (y.drop (j+1)):=by rw[←hm,←hsz];exact kQ y _
   have HS:=ah (by
    have h5:y=y.take j++c::y.drop (j+1):=by
     conv=>lhs;rw[←List.take_append_drop j y,List.drop_eq_getElem_cons hj]
     rw[gQ hj]at h4
     rw[dU h4]
    have h6:=yg c (y.take j) (y.drop (j+1)) h3
    rw[←h5]at h6
    exact h6:cZ c y=y.take j::cZ c (y.drop (j+1)))
   have HDL:=ah (List.length_drop:(y.drop (j+1)).length=y.length-(j+1))
   have HM:=ah hm
   rw[hm]at hsz hy hky
   have hjm:j<m:=by omega
   go_wp2_with (first
    |(go_at_call 205;refine gU (II.o _) ?_)
    |(at_builtin;refine vS rfl (.tmp 46) (.tmp 50) rfl w.heap.size w _ _ k _ _ rfl rfl HR.o.2.2.1 HR.o.2.2.2 (by have:=HR.o.2.2.2.size;omega) (by omega) ?_;intro v1 w2 h1 h2;have OWN:=ah h1;have BN:=ah h2;clear h1 h2))
   go_roundw
   case rel =>
    refine⟨y.drop (j+1),k+1,d++[y.take j],rfl,by rw[HDL.o,HM.o];omega,by rw[HDL.o,HM.o];omega,⟨by rw[dY,HR.o.1];rfl,by rw[HR.o.2.1,HS.o];simp,?_,BN.o⟩⟩
    have:=OWN.o
    rwa [show sv d++[.string (bs (y.take j))]=sv (d++[y.take j]) by simp[sv]]at this
   case measure=>simp only[aH,HDL.o,HM.o];omega
def Di (n:Nat):Bool:=(48≤n&&n≤57) || (65≤n&&n≤90) || (97≤n&&n≤122) || n==95
theorem Dj (c:UInt8):Di c.toNat=pq c:=by
 rw[Bool.eq_iff_iff]
 have h:c=95↔c.toNat=95:=⟨fun e=>by rw[e];rfl,fun e=>UInt8.toNat_inj.1 e⟩
 simp only[Di,pq,Bool.or_eq_true,Bool.and_eq_true,decide_eq_true_eq,beq_iff_eq,UInt8.le_iff_toNat_le,h]
 exact Iff.rfl
theorem Jq (n:Nat) (h:128≤n):Di n=false:=by
 simp[Di];omega
theorem Dl (n:Nat) (w:World):uQ 204 #[.int .i32 (n:Int)] w (.bool (Di n)):=by
 have h95:(((n:Int)==95))=decide (n=95):=by by_cases h:n=95<;>simp[h];omega
 have fin:∀b:Bool,b=Di n→Ending.returned (.bool b)=Ending.returned (.bool (Di n)):=fun b h=>by rw[h]
 have FIN:=ah fin
 go_enter func204,ntmps204
 go_wp2
 all_goals (
  go_ret
  refine⟨FIN.o _ ?_,rfl⟩
  rw[Bool.eq_iff_iff]
  simp[Di]
  try omega)
theorem ixz (c:UInt8) (l:List UInt8) (w:World):(Instr.index 9 (.string (bs (c::l))) (.int .i64 0)).run prog w=.ok (.int .u8 (c.toNat:Nat)) w:=by
 simp[Instr.index,go_sem,bs,Result.andThen]
 rfl
def uh (b:Bool) (w:World) (e:Ending) (w':World):Prop:=e=.returned (.bool b)∧Below w.heap.size w w'
theorem vU (p:List UInt8) (k:Nat) (h:k<p.length) (h1:iI (p.take k)=true) (h2:pq p[k]=true):iI (p.take (k+1))=true:=by
 rw[lu h];unfold iI at *;rw[List.all_append,h1];simp[h2]
theorem uP (p:List UInt8) (k:Nat) (h:k<p.length) (h2:pq p[k]=false):iI p=false:=by
 unfold iI
 rw[List.all_eq_false]
 exact⟨p[k],nZ h,by rw[h2];simp⟩
theorem Dn (p:List UInt8) (k:Nat) (hk:k<p.length):∃r d:Nat,(∀(W:World) (ty:TypeId),(Instr.next (.pointer (some ⟨W.heap.size,0,none⟩)) true ty).run prog (W.iter (bs p) k)=.ok (.tuple #[.bool true,.int .i64 k,.int .i32 r]) (W.iter (bs p) (k+d))) ∧
  (Di r=true→d=1∧pq p[k]=true)∧(Di r=false→pq p[k]=false):=by
 have hs:k<(bs p).size:=by rw[aH];exact hk
 have hb:(bs p)[k]'hs=p[k]:=CS p k hs hk
 by_cases ha:(p[k]).toNat<128
 ·refine⟨(p[k]).toNat,1,fun W ty=>?_,fun h=>⟨rfl,by rw[←Dj];exact h⟩,fun h=>by rw[←Dj];exact h⟩
  have h:=run_next_ascii (P:=prog) W (bs p) k ty hs (by rw[hb];exact ha)
  rw[hb]at h
  exact h
 ·have hd:=decode_high (bs p) k hs (by rw[hb];omega)
  refine⟨(Utf8.decode (bs p) k).1,(Utf8.decode (bs p) k).2,fun W ty=>run_next_any W (bs p) k ty hs,fun h=>?_,fun h=>?_⟩
  ·rw[Jq _ hd.1]at h;cases h
  ·rw[←Dj,Jq _ (by omega)]
theorem Js {a:UInt8} {q p:List UInt8} (hp:a::q=p) (h:yX a=true):nO p=false:=by subst hp;simp[nO,iP,h]
theorem Jr {a:UInt8} {q p:List UInt8} (hp:a::q=p) (h:iI p=false):nO p=false:=by subst hp;simp[nO,iP,h]
theorem Tt (p:List UInt8) (h:¬p.length≤255):nO p=false:=by unfold nO;rw[decide_eq_false h];rfl
theorem Tq {a:UInt8} {q p:List UInt8} (hp:a::q=p) (h:iI p=true) (hd:yX a=false) (hl:p.length≤255):nO p=true:=by subst hp;simp only[nO,iP,h,hd,decide_eq_true hl];rfl
theorem P6 {f:List UInt8→Bool} {l:List (List UInt8)} {i:Nat} (h:i<l.length) (h2:f l[i]=false):l.all f=false:=by
 rw[List.all_eq_false]
 exact⟨l[i],nZ h,by rw[h2];simp⟩
theorem P5 {f:List UInt8→Bool} {l:List (List UInt8)} (h:∀i (h:i<l.length),f l[i]=true):l.all f=true:=by
 rw[List.all_eq_true]
 intro x hx
 obtain⟨i,hi,rfl⟩:=List.getElem_of_mem hx
 exact h i hi
theorem PK (x:List UInt8) (hl:x.length≤1000000) (w:World):Calls prog 172 #[.string (bs x)] w (uh (nO x) w):=by
 have hsz:(bs x).size=x.length:=aH x
 rcases x with _|⟨a,q⟩
 ·go_enter func172,ntmps172
  go_wp2
  go_ret
  exact⟨rfl,jc⟩
 obtain⟨p,hp⟩:∃p,a::q=p:=⟨_,rfl⟩
 obtain⟨m,hm⟩:∃m,p.length=m:=⟨_,rfl⟩
 rw[hp]at hsz hl ⊢
 rw[hm]at hsz hl
 have hm0:0<m:=by rw[←hm,←hp];simp
 have hz:((m:Int)==0)=false:=by simp;omega
 have HM:=ah hm
 have HP:=ah hp
 have hix:∀W,(Instr.index 9 (.string (bs p)) (.int .i64 0)).run prog W=.ok (.int .u8 (a.toNat:Nat)) W:=fun W=>by rw[←hp];exact ixz a q W
 have II:=ah (fun W=>O8 p 46 (by omega) W)
 by_cases abv:m≤255
 ·by_cases hdg:yX a=true
  ·have HD:=ah hdg
   unfold yX at hdg
   simp only[Bool.and_eq_true,decide_eq_true_eq,UInt8.le_iff_toNat_le]at hdg
   have h48:48≤a.toNat:=hdg.1
   have h57:a.toNat≤57:=hdg.2
   clear hdg hm
   rcases EI 46 p with ⟨h1,h2⟩|⟨k,h1,h2,h3,h4⟩
   ·rw[h1]at II
    clear h1 h2
    go_enter func172,ntmps172
    go_wp2_with (go_at_call 205;refine gU (II.o _) ?_)
    go_ret
    exact⟨congrArg (fun b=>Ending.returned (.bool b)) (Js HP.o HD.o).symm,jc⟩
   ·rw[h1]at II
    have hk1:((k:Int) != -1)=true:=by rw[bne_iff_ne];omega
    clear h1 h2 h3 h4
    go_enter func172,ntmps172
    go_wp2_with (go_at_call 205;refine gU (II.o _) ?_)
    go_ret
    exact⟨congrArg (fun b=>Ending.returned (.bool b)) (Js HP.o HD.o).symm,jc⟩
  ·have HDG:=ah (Bool.eq_false_iff.2 hdg)
   have aqu:a.toNat<48∨57<a.toNat:=by
    unfold yX at hdg
    simp only[Bool.and_eq_true,decide_eq_true_eq,UInt8.le_iff_toNat_le]at hdg
    have e1:(48:UInt8).toNat=48:=rfl
    have e2:(57:UInt8).toNat=57:=rfl
    omega
   rcases EI 46 p with ⟨h1,h2⟩|⟨k,h1,h2,h3,h4⟩
   ·rw[h1]at II
    clear h1 h2 hdg
    rcases aqu with hdg|hdg
    all_goals (
     clear hm hp
     go_enter func172,ntmps172
     go_wp2_with (go_at_call 205;refine gU (II.o _) ?_)
     go_loopw [5] (fun _ wr=>∃j:Nat,j≤m∧wr=w.iter (bs p) j∧aj (iI (p.take j)=true)) (fun _ wr=>m-wr.iterPos w.heap.size)
     case atStart=>exact⟨0,jf _,rfl,⟨rfl⟩⟩
     case round =>
      obtain⟨j,hj,rfl,HJ⟩:=hrel
      by_cases hjm:j<m
      ·have hjp:j<p.length:=by rw[HM.o];exact hjm
       obtain⟨r,dd,hrun,hy,hn⟩:=Dn p j hjp
       have hnx:=fun ty=>hrun w ty
       have HY:=ah hy
       have HN:=ah hn
       clear hy hn hrun
       have MB:=ah (fun W=>Dl r W)
       have HB:=ah ((jM w).trans (((jM w).alloc bW (.stringIter (bs p) (j+dd))).mono bW):Below w.heap.size w (w.iter (bs p) (j+dd)))
       cases hr:Di r
       ·rw[hr]at MB
        have HF:=ah (HN.o hr)
        clear hr
        go_wp2_with (go_at_call 204;refine gU (MB.o _) ?_)
        go_ret
        exact⟨congrArg (fun b=>Ending.returned (.bool b)) (Jr HP.o (uP p j hjp HF.o)).symm,HB.o⟩
       ·rw[hr]at MB
        obtain⟨rfl,hwc⟩:=HY.o hr
        have HF:=ah hwc
        clear hr hwc
        go_wp2_with (go_at_call 204;refine gU (MB.o _) ?_)
        go_roundw
        case rel=>exact⟨j+1,hjm,rfl,⟨vU p j hjp HJ.o HF.o⟩⟩
        case measure=>simp only[World.iterPos_iter];omega
      ·have OW:¬j<(bs p).size:=by rw[aH,HM.o];exact hjm
       have hnx:=fun ty=>run_next_end (P:=prog) w (bs p) j ty OW
       have HW:=ah (by have:=HJ.o;rwa [kT (by rw[HM.o];omega)]at this:iI p=true)
       have HB:=ah ((jM w).trans (((jM w).alloc bW (.stringIter (bs p) j)).mono bW):Below w.heap.size w (w.iter (bs p) j))
       clear OW
       go_wp2
       go_ret
       exact⟨congrArg (fun b=>Ending.returned (.bool b)) (Tq HP.o HW.o HDG.o (by rw[HM.o];exact abv)).symm,HB.o⟩)
   ·have HBAD:=ah (uP p k h2 (by rw[gQ h2]at h4;rw[dU h4];rfl))
    rw[h1]at II
    have hk1:((k:Int) != -1)=true:=by rw[bne_iff_ne];omega
    clear h1 h2 h3 h4 hm
    go_enter func172,ntmps172
    go_wp2_with (go_at_call 205;refine gU (II.o _) ?_)
    go_ret
    exact⟨congrArg (fun b=>Ending.returned (.bool b)) (Jr HP.o HBAD.o).symm,jc⟩
 ·go_enter func172,ntmps172
  go_wp2
  go_ret
  exact⟨congrArg (fun b=>Ending.returned (.bool b)) (Tt p (by rw[HM.o];exact abv)).symm,jc⟩
theorem sS (c:UInt8):∀(l p:List UInt8),p∈cZ c l→p.length≤l.length
 |[],p,h=>by rw[List.mem_singleton.1 h];exact bW
 |a::l,p,h=>by
  unfold cZ at h
  by_cases e:a=c
  ·rw[if_pos e]at h
   rcases List.mem_cons.1 h with rfl|h
   ·simp
   ·have:=sS c l p h;simp;omega
  ·rw[if_neg e]at h
   have ih:=sS c l
   rcases e2:cZ c l with _|⟨q,qs⟩
   ·exact absurd e2 (uN c l)
   ·rw[e2]at h ih
    rcases List.mem_cons.1 h with rfl|h
    ·have:=ih q (by simp);simp;omega
    ·have:=ih p (by simp[h]);simp;omega
theorem YJ {p:List UInt8} (h:iI p=false):iP p=false:=by cases p with
 |nil=>rfl
 |cons a q=>simp[iP,h]
theorem TQ {p:List UInt8} {a:UInt8} {q:List UInt8} (hp:p=a::q) (h:iI p=true) (hd:yX a=false):iP p=true:=by subst hp;simp[iP,h,hd]
theorem SQ {X:List UInt8} {PS:List (List UInt8)} (h:cZ 46 X=PS) (h1:X.length≤255) (h2:2≤PS.length) (h3:∀i (h:i<PS.length),iP PS[i]=true):g_ X=true:=by
 unfold g_;rw[h,decide_eq_true h1,decide_eq_true h2,P5 h3];rfl
theorem vH {X:List UInt8} {PS:List (List UInt8)} (h:cZ 46 X=PS) (h3:PS.all iP=false):g_ X=false:=by
 unfold g_;rw[h,h3];simp
theorem dig_lo {a:UInt8} (h:yX a=true):48≤a.toNat∧a.toNat≤57:=by
 unfold yX at h
 simp only[Bool.and_eq_true,decide_eq_true_eq,UInt8.le_iff_toNat_le]at h
 exact h
theorem ahY {a:UInt8} (h:yX a=false):a.toNat<48∨57<a.toNat:=by
 unfold yX at h
 simp only[Bool.and_eq_false_iff,decide_eq_false_iff_not,UInt8.le_iff_toNat_le]at h
 have e1:(48:UInt8).toNat=48:=rfl
 have e2:(57:UInt8).toNat=57:=rfl
 omega
theorem Gs (x:List UInt8) (hl:x.length≤1000000) (w:World):Calls prog 171 #[.string (bs x)] w (uh (g_ x) w):=by
 rcases x with _|⟨a,q⟩
 ·go_enter func171,ntmps171
  go_wp2
  go_ret
  exact⟨rfl,jc⟩
 obtain⟨X,hX⟩:∃X,a::q=X:=⟨_,rfl⟩
 have hX0:X≠[]:=by rw[←hX];simp
 rw[hX]at hl ⊢
 obtain⟨M,hM⟩:∃M,X.length=M:=⟨_,rfl⟩
 have hsz:(bs X).size=M:=by rw[aH];exact hM
 have hM0:0<M:=by rw[←hM];exact List.length_pos_iff.2 hX0
 have hz:((M:Int)==0)=false:=by simp;omega
 have hix:∀W,(Instr.index 9 (.string (bs X)) (.int .i64 0)).run prog W=.ok (.int .u8 (a.toNat:Nat)) W:=fun W=>by rw[←hX];exact ixz a q W
 have HXX:=ah hX
 have HMM:=ah hM
 have SP:=ah (fun W=>P_ X 46 hl W)
 obtain⟨PS,hPS⟩:∃PS,cZ 46 X=PS:=⟨_,rfl⟩
 unfold CG at SP
 rw[hPS]at SP
 have QD:=ah hPS
 obtain⟨n,hn⟩:∃n,PS.length=n:=⟨_,rfl⟩
 have HN:=ah hn
 have HLEN:=ah (fun i (h:i<PS.length)=>(by have:=sS 46 X PS[i] (by rw[hPS];exact nZ h);omega:PS[i].length≤1000000))
 have hnl:n≤1000001:=by
  have h1:=rO 46 X
  have h2:=List.length_filter_le (fun a=>decide (a=46)) X
  rw[hPS,hn]at h1
  omega
 clear hM hPS hn hX hX0
 by_cases abv:M≤255
 ·by_cases ha:a=46
  ·have HA:=ah ha
   have ha2:(((a.toNat:Nat):Int)==46)=true:=by rw[ha];rfl
   clear ha
   go_enter func171,ntmps171
   go_wp2
   go_ret
   exact⟨congrArg (fun b=>Ending.returned (.bool b)) (vH QD.o (by have h:=QD.o;rw[←HXX.o,HA.o]at h;rw[←h,show cZ 46 (46::q)=[]::cZ 46 q from yg 46 [] q (by simp)];rfl)).symm,jc⟩
  ·have ha2:(((a.toNat:Nat):Int)==46)=false:=by
    rw[kS]
    intro e
    exact ha (UInt8.toNat_inj.1 (by have e2:a.toNat=46:=(by omega);exact e2))
   clear ha
   go_enter func171,ntmps171
   go_wp2_with (go_at_call 203;refine(SP.o _).mono ?_;rintro e w1 ⟨g,cap,cur,rfl,hg,hcur,hb⟩;have HG:=ah hg;have ahw:=ah hcur;have HW1:=ah hb;rw[HN.o];clear hg hcur hb;refine Hid.o ?_)
   refine ah ?_
   by_cases hn2:2≤n
   ·go_wp2
    go_loopw [28] (fun t wo=>∃k:Nat,k≤n∧t=.int .i64 k∧aj ((∀i (h:i<PS.length),i<k→iP PS[i]=true)∧wo.heap[g]?=some (.cells cur 9 (0,0))∧Below w.heap.size w wo)) (fun t _=>n-(intOf t).toNat)
    case atStart=>exact⟨0,jf _,rfl,⟨fun i h hi=>by omega,HG.o,HW1.o⟩⟩
    case round =>
     obtain⟨k,hk,rfl,HR⟩:=hrel
     obtain⟨wo,rfl⟩:∃wo:World,wo=wr:=⟨_,rfl⟩
     by_cases hkn:k<n
     ·have hkp:k<PS.length:=by rw[HN.o];exact hkn
      have c0:=au HR.o.2.1 k (ahw.o k hkp)
      have HBAD:=ah (fun h=>P6 (f:=iP) hkp h)
      have yw:=ah (fun (h:iP PS[k]=true) i (hi:i<PS.length) (hik:i<k+1)=>(by
       by_cases e:i=k
       ·subst e;exact h
       ·exact HR.o.1 i hi (by omega):iP PS[i]=true))
      have ZU:=ah (HLEN.o k hkp)
      generalize PS[k]=p at c0 HBAD yw ZU
      have Jo:(k:Int)<n:=by omega
      obtain⟨m,hm⟩:∃m,p.length=m:=⟨_,rfl⟩
      have HM:=ah hm
      have hml:m≤1000000:=by have:=ZU.o;omega
      have hsp:(bs p).size=m:=by rw[aH];exact hm
      clear hm
      rcases p with _|⟨b,q2⟩
      ·have hm0:m=0:=HM.o.symm
       subst hm0
       go_wp2
       go_ret
       exact⟨congrArg (fun b=>Ending.returned (.bool b)) (vH QD.o (HBAD.o rfl)).symm,HR.o.2.2⟩
      ·obtain⟨p,hp⟩:∃p,b::q2=p:=⟨_,rfl⟩
       have hix:∀W,(Instr.index 9 (.string (bs p)) (.int .i64 0)).run prog W=.ok (.int .u8 (b.toNat:Nat)) W:=fun W=>by rw[←hp];exact ixz b q2 W
       rw[hp]at c0 HBAD yw HM hsp
       have hmz:((m:Int)==0)=false:=by have:=HM.o;rw[←hp]at this;simp at this;simp;omega
       have hm0:0<m:=by have:=HM.o;rw[←hp]at this;simp at this;omega
       have HP:=ah hp.symm
       clear hp
       cases hd:yX b
       ·have HD:=ah hd
        rcases ahY hd with hdg|hdg
        all_goals (
         clear hd
         go_wp2
         go_loopw [7] (fun _ wr=>∃j:Nat,j≤m∧wr=wo.iter (bs p) j∧aj (iI (p.take j)=true)) (fun _ wr=>m-wr.iterPos wo.heap.size)
         case atStart=>exact⟨0,jf _,rfl,⟨rfl⟩⟩
         case round =>
          obtain⟨j,hj,rfl,HJ⟩:=hrel
          by_cases hjm:j<m
          ·have hjp:j<p.length:=by rw[HM.o];exact hjm
           obtain⟨r,dd,hrun,hy,hn⟩:=Dn p j hjp
           have hnx:=fun ty=>hrun wo ty
           have HY:=ah hy
           have HN:=ah hn
           clear hy hn hrun
           have MB:=ah (fun W=>Dl r W)
           have HB:=ah (HR.o.2.2.trans (((Below.refl wo.heap.size wo).alloc bW (.stringIter (bs p) (j+dd))).mono HR.o.2.2.size):Below w.heap.size w (wo.iter (bs p) (j+dd)))
           cases hr:Di r
           ·rw[hr]at MB
            have HF:=ah (HN.o hr)
            clear hr
            go_wp2_with (go_at_call 204;refine gU (MB.o _) ?_)
            go_ret
            exact⟨congrArg (fun b=>Ending.returned (.bool b)) (vH QD.o (HBAD.o (YJ (uP p j hjp HF.o)))).symm,HB.o⟩
           ·rw[hr]at MB
            obtain⟨rfl,hwc⟩:=HY.o hr
            have HF:=ah hwc
            clear hr hwc
            go_wp2_with (go_at_call 204;refine gU (MB.o _) ?_)
            go_roundw
            case rel=>exact⟨j+1,hjm,rfl,⟨vU p j hjp HJ.o HF.o⟩⟩
            case measure=>simp only[World.iterPos_iter];omega
          ·have OW:¬j<(bs p).size:=by rw[aH,HM.o];exact hjm
           have hnx:=fun ty=>run_next_end (P:=prog) wo (bs p) j ty OW
           have HW:=ah (by have:=HJ.o;rwa [kT (by rw[HM.o];omega)]at this:iI p=true)
           have HB:=ah (HR.o.2.2.trans (((Below.refl wo.heap.size wo).alloc bW (.stringIter (bs p) j)).mono HR.o.2.2.size):Below w.heap.size w (wo.iter (bs p) j))
           clear OW
           go_wp2
           go_roundw
           case rel=>exact⟨k+1,by omega,by go_num,⟨yw.o (TQ HP.o HW.o HD.o),(kN wo _ _ (lt_of_block HR.o.2.1)).trans HR.o.2.1,HB.o⟩⟩
           case measure=>simp[intOf];omega)
       ·have hd1:=(dig_lo hd).1
        have hd2:=(dig_lo hd).2
        have HD:=ah hd
        clear hd
        go_wp2
        go_ret
        exact⟨congrArg (fun b=>Ending.returned (.bool b)) (vH QD.o (HBAD.o (by rw[HP.o];simp[iP,HD.o]))).symm,HR.o.2.2⟩
     ·have hke:n=k:=by omega
      subst hke
      have Jo:decide ((n:Int)<(n:Int))=false:=by simp
      go_wp2
      go_ret
      exact⟨congrArg (fun b=>Ending.returned (.bool b)) (SQ QD.o (by rw[HMM.o];exact abv) (by rw[HN.o];exact hn2) (fun i h=>HR.o.1 i h (by rw[←HN.o];exact h))).symm,HR.o.2.2⟩
   ·have hn3:n<2:=by omega
    go_wp2
    go_ret
    exact⟨congrArg (fun b=>Ending.returned (.bool b)) (by unfold g_;rw[QD.o,HN.o,decide_eq_false hn2];simp:g_ X=false).symm,HW1.o⟩
 ·go_enter func171,ntmps171
  go_wp2
  go_ret
  exact⟨congrArg (fun b=>Ending.returned (.bool b)) (by unfold g_;rw[HMM.o,decide_eq_false abv];rfl:g_ X=false).symm,jc⟩
theorem MQ {p:List UInt8} (h:iI p=false):jo p=false:=by unfold jo;rw[h];simp
theorem Iu {p:List UInt8} {a:UInt8} {q:List UInt8} (hp:p=a::q) (h:iI p=true):jo p=true:=by subst hp;unfold jo;rw[h];rfl
theorem Dp {r:List UInt8} {PS:List (List UInt8)} (hr:r≠[]) (h:cZ 47 r=PS) (h3:PS.all jo=false):je (47::r)=false:=by
 simp only[je,h,h3];cases r with
 |nil=>exact absurd rfl hr
 |cons a l=>rfl
theorem YK {r:List UInt8} {PS:List (List UInt8)} (h:cZ 47 r=PS) (h3:∀i (h:i<PS.length),jo PS[i]=true):je (47::r)=true:=by
 simp only[je,h,P5 h3];simp
theorem GN (l:List UInt8):je (47::(l++[47]))=false :=
 Dp (by simp) rfl (by rw[←wV,zk _ _ (by simp)])
theorem ixn (x:List UInt8) (i:Nat) (h:i<x.length) (w:World):(Instr.index 9 (.string (bs x)) (.int .i64 (i:Nat))).run prog w=.ok (.int .u8 ((x[i]).toNat:Nat)) w:=by
 have hs:i<(bs x).size:=by rw[aH];exact h
 have hb:=CS x i hs h
 simp[Instr.index,go_sem,Result.andThen,hs]
 exact congrArg (fun c:UInt8=>((c.toNat:Nat):Int)) hb
theorem Jw (x:List UInt8) (hl:x.length≤1000000) (w:World):Calls prog 170 #[.string (bs x)] w (uh (je x) w):=by
 rcases x with _|⟨a,r⟩
 ·go_enter func170,ntmps170
  go_wp2
  go_ret
  exact⟨rfl,jc⟩
 by_cases ha:a=47
 ·subst ha
  rcases List.eq_nil_or_concat r with rfl|⟨l,b,hr⟩
  ·have hix:∀W,(Instr.index 9 (.string (bs [47])) (.int .i64 0)).run prog W=.ok (.int .u8 47) W:=fun W=>ixz 47 [] W
   have hsz:(bs [47]).size=1:=aH _
   have ht:(bs [47]).toList=[47]:=bH _
   go_enter func170,ntmps170
   go_wp2
   go_ret
   exact⟨rfl,jc⟩
  ·have hrl:r.length=l.length+1:=by rw[hr];simp
   obtain⟨M,hM⟩:∃M,r.length=M:=⟨_,rfl⟩
   have hM0:0<M:=by omega
   have hM1:M+1≤1000000:=by rw[d_]at hl;omega
   have hsz:(bs (47::r)).size=M+1:=by rw[aH,d_,hM]
   have hix:∀W,(Instr.index 9 (.string (bs (47::r))) (.int .i64 0)).run prog W=.ok (.int .u8 47) W:=fun W=>ixz 47 r W
   have aiN:∀W,(Instr.index 9 (.string (bs (47::r))) (.int .i64 (M:Nat))).run prog W=.ok (.int .u8 (b.toNat:Nat)) W:=fun W=>by
    have h:=ixn (47::r) M (by simp;omega) W
    have e:(47::r)[M]'(by simp;omega)=b:=by subst hr;simp at hM;subst hM;simp
    rwa [e]at h
   have hxe:(bs (47::r)).extract 1 (M+1)=bs r:=by rw[gY,Nat.add_sub_cancel,List.drop_succ_cons,List.drop_zero,kT (by omega)]
   have hne:((bs (47::r)).toList==[47])=false:=by rw[bH];rw[kS];intro e;simp at e;rw[e]at hM;simp at hM;omega
   have hz:(((M:Int)+1)==0)=false:=by rw[kS];omega
   have hnz:(((M:Int)+1) != 1)=true:=by rw[bne_iff_ne];omega
   have HMM:=ah hM
   have Hy:=ah hr
   by_cases hb:b=47
   ·have HB:=ah hb
    have hb2:(((b.toNat:Nat):Int)==47)=true:=by rw[hb];rfl
    clear hb hr hrl hM
    go_enter func170,ntmps170
    go_wp2
    go_ret
    exact⟨congrArg (fun b=>Ending.returned (.bool b)) (by rw[Hy.o,HB.o,List.concat_eq_append];exact GN l:je (47::r)=false).symm,jc⟩
   ·have hb2:(((b.toNat:Nat):Int)==47)=false:=by
     rw[kS]
     intro e
     exact hb (UInt8.toNat_inj.1 (by have e2:b.toNat=47:=(by omega);exact e2))
    have SP:=ah (fun W=>P_ r 47 (by omega) W)
    obtain⟨PS,hPS⟩:∃PS,cZ 47 r=PS:=⟨_,rfl⟩
    unfold CG at SP
    rw[hPS]at SP
    have QD:=ah hPS
    obtain⟨n,hn⟩:∃n,PS.length=n:=⟨_,rfl⟩
    have HN:=ah hn
    have HLEN:=ah (fun i (h:i<PS.length)=>(by have:=sS 47 r PS[i] (by rw[hPS];exact nZ h);omega:PS[i].length≤1000000))
    have HRR:=ah (by intro e;rw[e]at hM;simp at hM;omega:r≠[])
    have hnl:n≤1000001:=by
     have h1:=rO 47 r
     have h2:=List.length_filter_le (fun a=>decide (a=47)) r
     rw[hPS,hn]at h1
     omega
    clear hM hPS hn hb hr hrl
    go_enter func170,ntmps170
    go_wp2_with (go_at_call 203;refine(SP.o _).mono ?_;rintro e w1 ⟨g,cap,cur,rfl,hg,hcur,hb⟩;have HG:=ah hg;have ahw:=ah hcur;have HW1:=ah hb;rw[HN.o];clear hg hcur hb;refine Hid.o ?_)
    refine ah ?_
    go_wp2
    go_loopw [34] (fun t wo=>∃k:Nat,k≤n∧t=.int .i64 k∧aj ((∀i (h:i<PS.length),i<k→jo PS[i]=true)∧wo.heap[g]?=some (.cells cur 9 (0,0))∧Below w.heap.size w wo)) (fun t _=>n-(intOf t).toNat)
    case atStart=>exact⟨0,jf _,rfl,⟨fun i h hi=>by omega,HG.o,HW1.o⟩⟩
    case round =>
     obtain⟨k,hk,rfl,HR⟩:=hrel
     obtain⟨wo,rfl⟩:∃wo:World,wo=wr:=⟨_,rfl⟩
     by_cases hkn:k<n
     ·have hkp:k<PS.length:=by rw[HN.o];exact hkn
      have c0:=au HR.o.2.1 k (ahw.o k hkp)
      have HBAD:=ah (fun h=>P6 (f:=jo) hkp h)
      have yw:=ah (fun (h:jo PS[k]=true) i (hi:i<PS.length) (hik:i<k+1)=>(by
       by_cases e:i=k
       ·subst e;exact h
       ·exact HR.o.1 i hi (by omega):jo PS[i]=true))
      have ZU:=ah (HLEN.o k hkp)
      generalize PS[k]=p at c0 HBAD yw ZU
      have Jo:(k:Int)<n:=by omega
      obtain⟨m,hm⟩:∃m,p.length=m:=⟨_,rfl⟩
      have HM:=ah hm
      have hml:m≤1000000:=by have:=ZU.o;omega
      have hsp:(bs p).size=m:=by rw[aH];exact hm
      clear hm
      rcases p with _|⟨b,q2⟩
      ·have hm0:m=0:=HM.o.symm
       subst hm0
       go_wp2
       go_ret
       exact⟨congrArg (fun b=>Ending.returned (.bool b)) (Dp HRR.o QD.o (HBAD.o rfl)).symm,HR.o.2.2⟩
      ·obtain⟨p,hp⟩:∃p,b::q2=p:=⟨_,rfl⟩
       rw[hp]at c0 HBAD yw HM hsp
       have hmz:((m:Int)==0)=false:=by have:=HM.o;rw[←hp]at this;simp at this;simp;omega
       have HP:=ah hp.symm
       clear hp
       go_wp2
       go_loopw [8] (fun _ wr=>∃j:Nat,j≤m∧wr=wo.iter (bs p) j∧aj (iI (p.take j)=true)) (fun _ wr=>m-wr.iterPos wo.heap.size)
       case atStart=>exact⟨0,jf _,rfl,⟨rfl⟩⟩
       case round =>
        obtain⟨j,hj,rfl,HJ⟩:=hrel
        by_cases hjm:j<m
        ·have hjp:j<p.length:=by rw[HM.o];exact hjm
         obtain⟨r,dd,hrun,hy,hn⟩:=Dn p j hjp
         have hnx:=fun ty=>hrun wo ty
         have HY:=ah hy
         have HN:=ah hn
         clear hy hn hrun
         have MB:=ah (fun W=>Dl r W)
         have HB:=ah (HR.o.2.2.trans (((Below.refl wo.heap.size wo).alloc bW (.stringIter (bs p) (j+dd))).mono HR.o.2.2.size):Below w.heap.size w (wo.iter (bs p) (j+dd)))
         cases hr:Di r
         ·rw[hr]at MB
          have HF:=ah (HN.o hr)
          clear hr
          go_wp2_with (go_at_call 204;refine gU (MB.o _) ?_)
          go_ret
          exact⟨congrArg (fun b=>Ending.returned (.bool b)) (Dp HRR.o QD.o (HBAD.o (MQ (uP p j hjp HF.o)))).symm,HB.o⟩
         ·rw[hr]at MB
          obtain⟨rfl,hwc⟩:=HY.o hr
          have HF:=ah hwc
          clear hr hwc
          go_wp2_with (go_at_call 204;refine gU (MB.o _) ?_)
          go_roundw
          case rel=>exact⟨j+1,hjm,rfl,⟨vU p j hjp HJ.o HF.o⟩⟩
          case measure=>simp only[World.iterPos_iter];omega
        ·have OW:¬j<(bs p).size:=by rw[aH,HM.o];exact hjm
         have hnx:=fun ty=>run_next_end (P:=prog) wo (bs p) j ty OW
         have HW:=ah (by have:=HJ.o;rwa [kT (by rw[HM.o];omega)]at this:iI p=true)
         have HB:=ah (HR.o.2.2.trans (((Below.refl wo.heap.size wo).alloc bW (.stringIter (bs p) j)).mono HR.o.2.2.size):Below w.heap.size w (wo.iter (bs p) j))
         clear OW
         go_wp2
         go_roundw
         case rel=>exact⟨k+1,by omega,by go_num,⟨yw.o (Iu HP.o HW.o),(kN wo _ _ (lt_of_block HR.o.2.1)).trans HR.o.2.1,HB.o⟩⟩
         case measure=>simp[intOf];omega
     ·have hke:n=k:=by omega
      subst hke
      have Jo:decide ((n:Int)<(n:Int))=false:=by simp
      go_wp2
      go_ret
      exact⟨congrArg (fun b=>Ending.returned (.bool b)) (YK QD.o (fun i h=>HR.o.1 i h (by rw[←HN.o];exact h))).symm,HR.o.2.2⟩
 ·have ha2:(((a.toNat:Nat):Int) != 47)=true:=by
   rw[bne_iff_ne]
   intro e
   exact ha (UInt8.toNat_inj.1 (by have e2:a.toNat=47:=(by omega);exact e2))
  have hix:∀W,(Instr.index 9 (.string (bs (a::r))) (.int .i64 0)).run prog W=.ok (.int .u8 (a.toNat:Nat)) W:=fun W=>ixz a r W
  have hsz:(bs (a::r)).size=r.length+1:=by rw[aH,d_]
  have hz:(((r.length:Int)+1)==0)=false:=by rw[kS];omega
  have HA:=ah ha
  clear ha
  go_enter func170,ntmps170
  go_wp2
  go_ret
  exact⟨congrArg (fun b=>Ending.returned (.bool b)) (by simp only[je,kS.2 HA.o];rfl:je (a::r)=false).symm,jc⟩
theorem adw:∀n:Fin 256,((97≤bits .or .u8 (n.val:Int) 32∧bits .or .u8 (n.val:Int) 32≤122)∨(48≤n.val∧n.val≤57)∨n.val=95)↔pq (UInt8.ofNat n.val)=true:=by decide +kernel
theorem JR (c:UInt8) (w:World):uQ 62 #[.int .u8 (c.toNat:Nat)] w (.bool (pq c)):=by
 have hq:=adw ⟨c.toNat,c.toNat_lt⟩
 rw[show UInt8.ofNat c.toNat=c by simp]at hq
 simp only at hq
 obtain⟨v,hv⟩:∃v,bits .or .u8 (c.toNat:Int) 32=v:=⟨_,rfl⟩
 rw[hv]at hq
 have h95:(((c.toNat:Nat):Int)==95)=decide (c.toNat=95):=by by_cases h:c.toNat=95<;>simp[h];omega
 have FIN:=ah (fun (b:Bool) (h:b=true↔((97≤v∧v≤122)∨(48≤c.toNat∧c.toNat≤57)∨c.toNat=95))=>(congrArg (fun b=>Ending.returned (.bool b)) (Bool.eq_iff_iff.2 (h.trans hq)):Ending.returned (.bool b)=Ending.returned (.bool (pq c))))
 clear hq
 go_enter func62,ntmps62
 go_wp2
 all_goals (
  go_ret
  refine⟨FIN.o _ ?_,rfl⟩
  simp
  try omega)
def rJ:Bool→List UInt8→Bool
 | _,[]=>true
 |b,c::l=>if c=47 then !b&&rJ true l else pq c&&rJ false l
theorem TU (c:UInt8) (hc:c≠47):∀(l:List UInt8) (b:Bool),rH b (l++[c])=rJ b (l++[c])
 |[],b=>by
  show rH b [c]=rJ b [c]
  unfold rH rJ
  rw[if_neg hc,if_neg hc]
  simp[rH,rJ]
 |d::l,b=>by
  rw[lF]
  unfold rH rJ
  rw[TU c hc l true,TU c hc l false]
theorem c47 (c:UInt8):(((c.toNat:Nat):Int)==47)=decide (c=47):=by
 by_cases h:c=47
 ·subst h;rfl
 ·have:c.toNat≠47:=fun e=>h (UInt8.toNat_inj.1 e)
  rw[decide_eq_false h,kS];omega
theorem n47 (c:UInt8):(((c.toNat:Nat):Int) != 47)=!decide (c=47):=by rw[bne,c47]
theorem yP (x:List UInt8) (hl:x.length≤1000000) (w:World):Calls prog 41 #[.string (bs x)] w (uh (je x) w):=by
 have ht:(bs x).toList=x:=bH x
 by_cases h1:x=[47]
 ·subst h1
  go_enter func41,ntmps41
  go_wp2
  go_ret
  exact⟨rfl,jc⟩
 rcases x with _|⟨a,r⟩
 ·go_enter func41,ntmps41
  go_wp2
  go_ret
  exact⟨rfl,jc⟩
 have hne1:((bs (a::r)).toList==[47])=false:=by rw[ht];exact kS.2 h1
 have hne2:((bs (a::r)).toList.isEmpty)=false:=by rw[ht];rfl
 clear ht
 obtain⟨M,hM⟩:∃M,r.length=M:=⟨_,rfl⟩
 have hM1:M+1≤1000000:=by rw[d_,hM]at hl;exact hl
 have hsz:(bs (a::r)).size=M+1:=by rw[aH,d_,hM]
 have hix:∀W,(Instr.index 9 (.string (bs (a::r))) (.int .i64 0)).run prog W=.ok (.int .u8 (a.toNat:Nat)) W:=fun W=>ixz a r W
 have ha1:=n47 a
 by_cases ha:a=47
 ·subst ha
  have hr:r≠[]:=fun e=>h1 (by rw[e])
  obtain⟨l,b,hb⟩:=(List.eq_nil_or_concat r).resolve_left hr
  have aiN:∀W,(Instr.index 9 (.string (bs (47::r))) (.int .i64 (M:Nat))).run prog W=.ok (.int .u8 (b.toNat:Nat)) W:=fun W=>by
   have h:=ixn (47::r) M (by simp;omega) W
   have e:(47::r)[M]'(by simp;omega)=b:=by subst hb;simp at hM;subst hM;simp
   rwa [e]at h
  have hb1:=c47 b
  have HB:=ah hb
  have HR:=ah hr
  have HMM:=ah hM
  clear hb hr h1 hM
  by_cases Yo:b=47
  ·have apx:=ah Yo
   rw[decide_eq_true Yo]at hb1
   clear Yo
   go_enter func41,ntmps41
   go_wp2
   go_ret
   exact⟨congrArg (fun b=>Ending.returned (.bool b)) (by rw[HB.o,apx.o,List.concat_eq_append];exact GN l:je (47::r)=false).symm,jc⟩
  ·rw[decide_eq_false Yo]at hb1
   have HQ:=ah (by
    have e:je (47::r)=rH true r:=by
     simp only[je]
     rw[←wV]
     cases r with
     |nil=>exact absurd rfl HR.o
     |cons c q=>simp
    rw[e,HB.o,List.concat_eq_append,TU b Yo]:je (47::r)=rJ true r)
   clear Yo
   obtain⟨X,hX⟩:∃X,47::r=X:=⟨_,rfl⟩
   have HX:=ah hX
   rw[hX]at hsz hix aiN hl hne1 hne2 ⊢
   clear hX
   go_enter func41,ntmps41
   go_wp2
   clear aiN hix
   go_loopw [3] (fun t wr=>∃k:Nat,1≤k∧k≤M+1∧t=.int .i64 k∧aj (je X=rJ (decide (X[k-1]?=some 47)) (X.drop k))∧wr=w) (fun t _=>M+1-(intOf t).toNat)
   case atStart=>exact⟨1,bW,by omega,rfl,⟨by rw[←HX.o,HQ.o];rfl⟩,rfl⟩
   case round =>
    obtain⟨k,hk1,hk2,rfl,HK,rfl⟩:=hrel
    have HXL:=ah (by rw[←HX.o,d_,HMM.o]:X.length=M+1)
    by_cases hlt:k<M+1
    ·have hkx:k<X.length:=by rw[HXL.o];exact hlt
     have hix1:=ixn X k hkx
     have hix2:=ixn X (k-1) (by omega)
     have hkm:((k:Int)-1)=((k-1:Nat):Int):=by omega
     rw[←hkm]at hix2
     have hd:=HK.o
     rw[List.drop_eq_getElem_cons hkx,gQ (show k-1<X.length by omega)]at hd
     have HN:=ah (show X[k+1-1]?=some X[k] by rw[Nat.add_sub_cancel,gQ hkx])
     have WS:=ah (fun W=>JR X[k] W)
     have g1:=c47 X[k]
     have g2:=n47 X[k]
     have g3:=c47 X[k-1]
     generalize X[k]=c at *
     generalize X[k-1]=p at *
     clear hkm HK hkx
     by_cases hc:c=47
     ·by_cases hp:p=47
      ·rw[decide_eq_true hc]at g1 g2
       rw[decide_eq_true hp]at g3
       have HF:=ah (by rw[hd,hp,hc];simp[rJ]:je X=false)
       clear hd hc hp
       go_wp2
       go_ret
       exact⟨congrArg (fun b=>Ending.returned (.bool b)) HF.o.symm,jc⟩
      ·rw[decide_eq_true hc]at g1 g2
       rw[decide_eq_false hp]at g3
       have HF:=ah (by rw[hd];simp only[rJ,hc,HN.o];simp[hp]:je X=rJ (decide (X[k+1-1]?=some 47)) (X.drop (k+1)))
       clear hd hc hp
       go_wp2
       go_roundw
       case rel=>exact⟨k+1,by omega,hlt,by go_num,⟨HF.o⟩,by first|rfl|trivial⟩
       case measure=>simp[intOf];omega
     ·rw[decide_eq_false hc]at g1 g2
      cases hw:pq c
      ·rw[hw]at WS
       have HF:=ah (by rw[hd];simp[rJ,hc,hw]:je X=false)
       clear hd hc hw
       go_wp2_with (go_at_call 62;refine gU (WS.o _) ?_)
       go_ret
       exact⟨congrArg (fun b=>Ending.returned (.bool b)) HF.o.symm,jc⟩
      ·rw[hw]at WS
       have HF:=ah (by rw[hd,HN.o];simp[rJ,hc,hw]:je X=rJ (decide (X[k+1-1]?=some 47)) (X.drop (k+1)))
       clear hd hc hw
       go_wp2_with (go_at_call 62;refine gU (WS.o _) ?_)
       go_roundw
       case rel=>exact⟨k+1,by omega,hlt,by go_num,⟨HF.o⟩,by first|rfl|trivial⟩
       case measure=>simp[intOf];omega
    ·have hke:M+1=k:=by omega
     subst hke
     have HF:=ah (by rw[HK.o,List.drop_of_length_le (by rw[HXL.o];exact bW)];rfl:je X=true)
     go_wp2
     go_ret
     exact⟨congrArg (fun b=>Ending.returned (.bool b)) HF.o.symm,jc⟩
 ·rw[decide_eq_false ha]at ha1
  have HF:=ah (by simp[je,ha]:je (a::r)=false)
  clear ha h1
  go_enter func41,ntmps41
  go_wp2
  go_ret
  exact⟨congrArg (fun b=>Ending.returned (.bool b)) HF.o.symm,jc⟩
end Go.Proofs.YtllcccekodcdmaaGreatDoor.Ms
namespace Go.Proofs.YtllcccekodcdmaaGreatDoor.Fl
open Go Go.RowKit
def T_ (e:Int):Int:=(wrap64 ((wrap64 (e*631305))-261663))/2097152
def log10 (e:Int):Int:=(wrap64 (e*78913))/262144
def log2 (e:Int):Int:=(wrap64 (e*108853))/32768
def Bl (a0 a1:Int):Int:=IntKind.u64.wrap ((IntKind.u64.wrap ((IntKind.u64.wrap ((a0/4294967296)*(a1/4294967296)))+((IntKind.u64.wrap ((IntKind.u64.wrap ((a0/4294967296)*(Go.bits .and .u64 a1 4294967295)))+((IntKind.u64.wrap ((Go.bits .and .u64 a0 4294967295)*(Go.bits .and .u64 a1 4294967295)))/4294967296)))/4294967296)))+((IntKind.u64.wrap ((Go.bits .and .u64 (IntKind.u64.wrap ((IntKind.u64.wrap ((a0/4294967296)*(Go.bits .and .u64 a1 4294967295)))+((IntKind.u64.wrap ((Go.bits .and .u64 a0 4294967295)*(Go.bits .and .u64 a1 4294967295)))/4294967296))) 4294967295)+(IntKind.u64.wrap ((Go.bits .and .u64 a0 4294967295)*(a1/4294967296)))))/4294967296))
def PN (a0 a1:Int):Int:=IntKind.u64.wrap (a0*a1)
def nud (u d:Int):Int:=IntKind.u64.wrap (u+IntKind.u64.wrap d)
def cei (u:Int):Int:=(IntKind.u64.wrap (u+3))/4
def flo (u:Int):Int:=(IntKind.u64.wrap u)/4
def rou (u:Int):Int:=(IntKind.u64.wrap ((IntKind.u64.wrap (u+1))+(Go.bits .and .u64 (u/4) 1)))/4
theorem acR (e:Int) (w:World):Calls prog 217 #[.int .i64 e] w fun e' w'=>e'=.returned (.int .i64 (T_ e))∧w=w':=by
 go_enter func217,ntmps217
 go_wp2
 go_ret
 exact⟨rfl,rfl⟩
theorem uK (e:Int) (w:World):Calls prog 145 #[.int .i64 e] w fun e' w'=>e'=.returned (.int .i64 (log10 e))∧w=w':=by
 go_enter func145,ntmps145
 go_wp2
 go_ret
 exact⟨rfl,rfl⟩
theorem ach (e:Int) (w:World):Calls prog 219 #[.int .i64 e] w fun e' w'=>e'=.returned (.int .i64 (log2 e))∧w=w':=by
 go_enter func219,ntmps219
 go_wp2
 go_ret
 exact⟨rfl,rfl⟩
theorem Jt (a b:Int) (w:World):Calls prog 238 #[.int .u64 a,.int .u64 b] w fun e' w'=>e'=.returned (.tuple #[.int .u64 (Bl a b),.int .u64 (PN a b)])∧w=w':=by
 go_enter func238,ntmps238
 go_wp2
 go_ret2
 exact⟨rfl,rfl⟩
theorem af5 (a b:Int) (w:World):Calls prog 221 #[.int .u64 a,.int .i64 b] w fun e' w'=>e'=.returned (.int .u64 (nud a b))∧w=w':=by
 go_enter func221,ntmps221
 go_wp2
 go_ret
 exact⟨rfl,rfl⟩
theorem aeo (a:Int) (w:World):Calls prog 222 #[.int .u64 a] w fun e' w'=>e'=.returned (.int .u64 (cei a))∧w=w':=by
 go_enter func222,ntmps222
 go_wp2
 go_ret
 exact⟨rfl,rfl⟩
theorem aeE (a:Int) (w:World):Calls prog 223 #[.int .u64 a] w fun e' w'=>e'=.returned (.int .u64 (flo a))∧w=w':=by
 go_enter func223,ntmps223
 go_wp2
 go_ret
 exact⟨rfl,rfl⟩
theorem agd (a:Int) (w:World):Calls prog 224 #[.int .u64 a] w fun e' w'=>e'=.returned (.int .u64 (rou a))∧w=w':=by
 go_enter func224,ntmps224
 go_wp2
 go_ret
 exact⟨rfl,rfl⟩
def b2 (b:Bool):Int:=if b then 1 else 0
theorem UF (b:Bool) (w:World):Calls prog 239 #[.bool b] w fun e' w'=>e'=.returned (.int .u64 (b2 b))∧w=w':=by
 cases b
 ·go_enter func239,ntmps239
  go_wp2
  go_ret
  exact⟨rfl,rfl⟩
 ·go_enter func239,ntmps239
  go_wp2
  go_ret
  exact⟨rfl,rfl⟩
theorem aeg (b:Bool) (w:World):Calls prog 147 #[.bool b] w fun e' w'=>e'=.returned (.int .i64 (b2 b))∧w=w':=by
 cases b
 ·go_enter func147,ntmps147
  go_wp2
  go_ret
  exact⟨rfl,rfl⟩
 ·go_enter func147,ntmps147
  go_wp2
  go_ret
  exact⟨rfl,rfl⟩
def ush (u k:Int):Int:=u/2^k.toNat
def usl (u k:Int):Int:=IntKind.u64.wrap (u*2^k.toNat)
def Zt (x hi lo s:Int):Int :=
 if usl (ush (Bl x hi) (bits .and .i64 s 63)) (bits .and .i64 s 63)=Bl x hi then
  bits .or .u64 (ush (IntKind.u64.wrap (Bl x hi-b2 (decide (PN x hi<Bl x lo)))) (bits .and .i64 s 63)) (b2 (decide (1<IntKind.u64.wrap (PN x hi-Bl x lo))))
 else bits .or .u64 (ush (Bl x hi) (bits .and .i64 s 63)) 1
theorem Yv (n:Int):bits .and .i64 n 63=n%64:=by
 have h63:(BitVec.ofInt 64 63).toNat=2^6-1:=by decide
 have key:(BitVec.ofInt 64 n &&& BitVec.ofInt 64 63).toNat=(n%((2^64:Nat):Int)).toNat%2^6:=by
  rw[BitVec.toNat_and,BitVec.toNat_ofInt,h63,Nat.and_two_pow_sub_one_eq_mod]
 show IntKind.i64.wrap ((BitVec.ofInt 64 n &&& BitVec.ofInt 64 63).toNat:Nat)=n%64
 rw[key,IntKind.wrap_i64]
 omega
theorem akU (s:Int):0≤bits .and .i64 s 63∧bits .and .i64 s 63<64:=by
 rw[Yv];omega
theorem Nq (x hi lo s:Int) (g:Nat) (w:World) (c0:w.cell? ⟨g,0,none⟩=some (.int .u64 hi)) (c1:w.cell? ⟨g,1,none⟩=some (.int .u64 lo)) (c2:w.cell? ⟨g,2,none⟩=some (.int .i64 s)) :
  Calls prog 220 #[.int .u64 x,.pointer (some ⟨g,0,none⟩)] w fun e' w'=>e'=.returned (.int .u64 (Zt x hi lo s))∧∃n,w'=w.drewN n:=by
 have hs:=akU s
 unfold Zt
 obtain⟨k,hk⟩:∃k,bits .and .i64 s 63=k:=⟨_,rfl⟩
 obtain⟨h,hh⟩:∃h,Bl x hi=h:=⟨_,rfl⟩
 obtain⟨m,hm⟩:∃m,PN x hi=m:=⟨_,rfl⟩
 obtain⟨m2,hm2⟩:∃m2,Bl x lo=m2:=⟨_,rfl⟩
 rw[hk]at hs
 rw[hk,hh,hm,hm2]
 obtain⟨h0,h63⟩:=hs
 have M1:∀w,Calls prog 238 #[.int .u64 x,.int .u64 hi] w fun e' w'=>e'=.returned (.tuple #[.int .u64 h,.int .u64 m])∧w=w':=fun w=>by have:=Jt x hi w;rwa [hh,hm]at this
 have M2:∀w,Calls prog 238 #[.int .u64 x,.int .u64 lo] w fun e' w'=>e'=.returned (.tuple #[.int .u64 m2,.int .u64 (PN x lo)])∧w=w':=fun w=>by have:=Jt x lo w;rwa [hm2]at this
 have M1:=ah M1
 have M2:=ah M2
 by_cases hc:usl (ush h k) k=h
 ·rw[if_pos hc]
  have hc':(IntKind.u64.wrap (h/2^k.toNat*2^k.toNat) != h)=false:=by simpa[usl,ush]using hc
  go_enter func220,ntmps220
  go_wp2_with ((first|(go_at_call 238;(with_reducible refine(M1.o _).mono ?_))|(go_at_call 238;(with_reducible refine(M2.o _).mono ?_))|(go_at_call 239;(with_reducible refine(UF _ _).mono ?_)));rintro e w1 ⟨rfl,rfl⟩)
  go_quiet ((go_at_call 239;exact Calls.quiet_of_same ((UF _ _).mono (fun e w' h=>⟨h.1,h.2.symm⟩))))
  go_wp2
  go_ret
  exact⟨rfl,_,rfl⟩
 ·rw[if_neg hc]
  have hc':(IntKind.u64.wrap (h/2^k.toNat*2^k.toNat) != h)=true:=by simpa[usl,ush]using hc
  go_enter func220,ntmps220
  go_wp2_with (go_at_call 238;(with_reducible refine gU (M1.o _) ?_))
  go_ret
  exact⟨rfl,0,rfl⟩
end Go.Proofs.YtllcccekodcdmaaGreatDoor.Fl
namespace Go.Proofs.YtllcccekodcdmaaGreatDoor.Fl
open Go Go.RowKit Go.Proofs.ak.aT Go.Proofs.YtllcccekodcdmaaGreatDoor.Ms
def oJ (i:Nat):Int:=(Pinned.pow10Rows.getD i (0,0)).1
def oK (i:Nat):Int:=(Pinned.pow10Rows.getD i (0,0)).2
def ou (w:World):Prop:=∀i,i<696→w.cell? ⟨18,i*2,none⟩=some (.int .u64 (oJ i))∧w.cell? ⟨18,i*2+1,none⟩=some (.int .u64 (oK i))
theorem aga (g:Nat) (e p lp:Int) (i:Nat) (hi:i<696) (hp:p+348=i) (he:-10000≤e∧e≤10000) (hl:-10000≤lp∧lp≤10000) (w:World) (hw:ou w) (hg:g≠18)
  (hb:∃a b c,w.heap[g]?=some (.cells #[.int .u64 a,.int .u64 b,.int .i64 c] 295 (0,0))) :
  Calls prog 218 #[.pointer (some ⟨g,0,none⟩),.int .i64 e,.int .i64 p,.int .i64 lp] w fun e' w'=>e'=.returned (.tuple #[]) ∧
   w'=((w.setCell ⟨g,0,none⟩ (.int .u64 (oJ i))).setCell ⟨g,1,none⟩ (.int .u64 (oK i))).setCell ⟨g,2,none⟩ (.int .i64 (-(e+lp+3))):=by
 obtain⟨t0,t1⟩:=hw i hi
 obtain⟨a,b,c,hb⟩:=hb
 have f0:=aK hb 0
 have f1:=aK hb 1
 have f2:=aK hb 2
 have c0:=(aC hb 0).trans rfl
 have c1:=(aC hb 1).trans rfl
 have c2:=(aC hb 2).trans rfl
 simp only[List.size_toArray,List.getElem?_toArray,List.getElem?_cons_zero,List.getElem?_cons_succ]at c0 c1 c2
 have hg':¬18=g:=fun h=>hg h.symm
 have hq:p- -348=(i:Int):=by omega
 have hb1:(0:Int)≤p+348:=by omega
 have hb2:p+348<696:=by omega
 have hp1:-348≤p:=by omega
 have hp2:p<348:=by omega
 obtain⟨he1,he2⟩:=he
 obtain⟨hl1,hl2⟩:=hl
 go_enter func218,ntmps218
 go_wp2
 go_end0
 exact⟨rfl,rfl⟩
theorem af9 (B g:Nat) (hB:B≤g) (e p lp:Int) (i:Nat) (hi:i<696) (hp:p+348=i) (he:-10000≤e∧e≤10000) (hl:-10000≤lp∧lp≤10000) (w:World) (hw:ou w) (hg:g≠18)
  (hb:∃a b c,w.heap[g]?=some (.cells #[.int .u64 a,.int .u64 b,.int .i64 c] 295 (0,0))) :
  Calls prog 218 #[.pointer (some ⟨g,0,none⟩),.int .i64 e,.int .i64 p,.int .i64 lp] w fun e' w'=>e'=.returned (.tuple #[]) ∧
   w'.heap[g]?=some (.cells #[.int .u64 (oJ i),.int .u64 (oK i),.int .i64 (-(e+lp+3))] 295 (0,0))∧Below B w w':=by
 refine(aga g e p lp i hi hp he hl w hw hg hb).mono ?_
 rintro e' w' ⟨rfl,rfl⟩
 obtain⟨a,b,c,hb⟩:=hb
 refine⟨rfl,?_,(((jc.setCell hB _).setCell hB _).setCell hB _)⟩
 have h0:=Ez hb 0 (.int .u64 (oJ i))
 have h1:=Ez h0 1 (.int .u64 (oK i))
 have h2:=Ez h1 2 (.int .i64 (-(e+lp+3)))
 simpa using h2
theorem ou.below {w w':World} (h:ou w) (hz:18<w.heap.size) (hb:Below w.heap.size w w'):ou w':=fun i hi =>
 ⟨(hb.cell (p:=⟨18,i*2,none⟩) hz).trans (h i hi).1,(hb.cell (p:=⟨18,i*2+1,none⟩) hz).trans (h i hi).2⟩
end Go.Proofs.YtllcccekodcdmaaGreatDoor.Fl
