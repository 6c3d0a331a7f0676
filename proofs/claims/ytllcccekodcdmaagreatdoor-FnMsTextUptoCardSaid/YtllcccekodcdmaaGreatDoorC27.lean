import Derived.Test.YtllcccekodcdmaaGreatDoorC24
import Derived.Test.YtllcccekodcdmaaGreatDoorC26
set_option linter.unusedVariables false
set_option linter.unusedSimpArgs false
set_option maxRecDepth 100000
set_option maxHeartbeats 32000000
open Go.Proofs.Tryz
namespace Go.Proofs.YtllcccekodcdmaaGreatDoor.Ms
open Go Go.RowKit Go.Proofs.ak.aT Go.Proofs.ak.cO Go.Proofs.YtllcccekodcdmaaGreatDoor.bK
section
theorem amQ (ty:Nat) (h1:1≤ty) (h4:ty≤4) (w:World):uQ 57 #[.int .u8 ty] w (.string (Zm ty)):=by
 have h:ty=1∨ty=2∨ty=3∨ty=4:=by omega
 clear h1 h4
 rcases h with rfl|rfl|rfl|rfl
 all_goals (
  first|rw[show ((1:Nat):Int)=1 from rfl]|rw[show ((2:Nat):Int)=2 from rfl]|rw[show ((3:Nat):Int)=3 from rfl]|rw[show ((4:Nat):Int)=4 from rfl]
  go_enter func57,ntmps57
  go_wp2
  go_ret
  exact⟨rfl,rfl⟩)
def BQ (nm:bG):Option A→bG
 |some (.sc (.s s))=>nm++s
 |some (.sc (.o s))=>nm++s
 |some (.sc (.u k))=>nm++bs (nU k)
 | _=>⟨#[]⟩
theorem qP (k:Int) (h0:0≤k) (h1:k<4294967296):(bs (nU k)).size≤21:=by
 rw[aH];exact zO _ (by omega)
theorem abk (nm:bG) (x:Option A) (h:∀a s,x=some a→(a=.sc (.s s)∨a=.sc (.o s))→s.size≤1000000) (hu:∀k,x=some (.sc (.u k))→0≤k∧k<4294967296):(BQ nm x).size≤nm.size+1000000:=by
 unfold BQ
 split
 ·rename_i s;rw[gK];have:=h _ s rfl (.inl rfl);omega
 ·rename_i s;rw[gK];have:=h _ s rfl (.inr rfl);omega
 ·rename_i k;rw[gK];have:=hu k rfl;have:=qP k this.1 this.2;omega
 ·show 0≤_;omega
def vZ (ty kG:Nat) (H:Nat→Option A):bG:=(((((((((Zm ty++BQ nm7 (H 7))++BQ nm6 (H 6))++(nm0++bs (nU kG)))++BQ nm5 (H 5))++BQ nm9 (H 9))++BQ nm1 (H 1))++BQ nm2 (H 2))++BQ nm4 (H 4))++BQ nm3 (H 3))
def o7 (l:List A) (n:Nat):Nat→bG
 |0=>⟨#[]⟩
 |k+1=>o7 l n k++(⟨#[32,32]⟩++(match l[k]? with|some a=>bs a.str|none=>⟨#[]⟩))++(if k+1=n then⟨#[]⟩else⟨#[10]⟩)
def bD:Code→Code
 | .seq _ y=>y
 |c=>c
def oU (f:Code→Code) (Q:Exit→Act→World→Prop) (a:Act) (w:World):Prop:=∀c,f35.body=some c→(f c).wp prog Q a w
section
variable {P:Program} {Q:Exit→Act→World→Prop} {a:Act} {w:World}
theorem Xr {c x y:Code} (hc:c=.seq x y) (J:Act→World→Prop) (h1:∀a w,J a w→y.wp P Q a w)
  (h:∀J' K:Act→World→Prop,(∀a w,J a w→J' a w)→(∀a w,Met J' a w→K a w)→x.wp P (Exit.then K Q) a w):c.wp P Q a w:=by
 subst hc
 refine wp_seq (wp_mono (h J J (fun _ _ q=>q) (fun _ _ q=>q)) ?_)
 intro e a' w' hq
 cases e with
 |normal=>exact h1 _ _ hq
 |exit id=>exact hq
 |goto l=>exact hq
 |ret=>exact hq
 |panic ch=>exact hq
 |outgrown=>exact hq
theorem adz {x z y:Code} (J:Act→World→Prop) (h1:∀a w,J a w→y.wp P Q a w)
  (h:∀J' K K1:Act→World→Prop,(∀a w,J a w→J' a w)→(∀a w,Met J' a w→K a w)→(∀a w,z.wp P (Exit.then K Q) a w→K1 a w)→x.wp P (Exit.then K1 Q) a w):(Code.seq x (.seq z y)).wp P Q a w:=by
 refine wp_seq (wp_mono (h J J (fun a w=>z.wp P (Exit.then J Q) a w) (fun _ _ q=>q) (fun _ _ q=>q) (fun _ _ q=>q)) ?_)
 intro e a' w' hq
 cases e with
 |normal=>exact Xr rfl J h1 (fun J' K q1 q2=>wp_mono hq (fun e a w h=>by cases e<;>first|exact q2 _ _ (q1 _ _ h)|exact h))
 |exit id=>exact hq
 |goto l=>exact hq
 |ret=>exact hq
 |panic ch=>exact hq
 |outgrown=>exact hq
end
theorem part {f:Code→Code} {Q:Exit→Act→World→Prop} {a:Act} {w:World} (J:Act→World→Prop) (c x y:Code) (hb:f35.body=some c) (hf:f c=.seq x y) (rest:∀a w,J a w→oU (fun c=>bD (f c)) Q a w)
  (h:∀J' K:Act→World→Prop,(∀a w,J a w→J' a w)→(∀a w,Met J' a w→K a w)→x.wp prog (Exit.then K Q) a w):oU f Q a w:=by
 intro c' hc'
 cases dU (hb.symm.trans hc')
 refine Xr hf J (fun a w hj=>?_) h
 have h2:(bD (f c)).wp prog Q a w:=rest a w hj c hb
 rw[hf]at h2
 exact h2
def nV (w:World) (M:Nat) (v4:Value) (a:Act) (w':World):Prop :=
 Below w.heap.size w w'∧∃u:Nat→Value,a=⟨#[(.pointer (some ⟨M,0,none⟩)),u 1,(.string ⟨#[]⟩),u 3,v4,u 5,u 6,u 7,u 8,u 9,u 10,u 11,u 12,u 13,u 14,u 15,u 16,u 17,u 18,u 19,u 20,u 21,u 22,u 23,u 24,u 25,u 26,u 27,u 28,u 29,u 30,u 31,u 32,u 33,u 34,u 35,u 36,u 37,u 38,u 39,u 40,u 41,u 42,u 43,u 44,u 45,u 46,u 47,u 48,u 49,u 50,u 51,u 52,u 53,u 54,u 55,u 56,u 57,u 58,u 59,u 60,u 61,u 62,u 63,u 64,u 65,u 66,u 67,u 68,u 69,u 70,u 71,u 72,u 73,u 74,u 75,u 76,u 77,u 78,u 79,u 80,u 81,u 82,u 83,u 84,u 85,u 86,u 87,u 88,u 89,u 90,u 91,u 92,u 93,u 94,u 95,u 96,u 97,u 98,u 99,u 100,u 101,u 102,u 103,u 104,u 105,u 106,u 107,u 108,u 109,u 110,u 111,u 112,u 113,u 114,u 115,u 116,u 117,u 118,u 119,u 120,u 121,u 122,u 123,u 124,u 125,u 126,u 127,u 128,u 129,u 130,u 131,u 132,u 133,u 134,u 135,u 136,u 137,u 138,u 139,u 140,u 141,u 142,u 143,u 144,u 145,u 146,u 147,u 148,u 149,u 150,u 151,u 152,u 153,u 154,u 155,u 156,u 157,u 158,u 159,u 160,u 161,u 162,u 163,u 164,u 165,u 166,u 167,u 168,u 169,u 170,u 171,u 172,u 173,u 174,u 175,u 176,u 177,u 178,u 179,u 180,u 181,u 182,u 183,u 184,u 185,u 186,u 187,u 188,u 189,u 190,u 191,u 192,u 193,u 194,u 195,u 196,u 197,u 198,u 199,u 200],[]⟩
theorem afX (l:List Value) (h:l.length=201):∃u:Nat→Value,l=[u 0,u 1,u 2,u 3,u 4,u 5,u 6,u 7,u 8,u 9,u 10,u 11,u 12,u 13,u 14,u 15,u 16,u 17,u 18,u 19,u 20,u 21,u 22,u 23,u 24,u 25,u 26,u 27,u 28,u 29,u 30,u 31,u 32,u 33,u 34,u 35,u 36,u 37,u 38,u 39,u 40,u 41,u 42,u 43,u 44,u 45,u 46,u 47,u 48,u 49,u 50,u 51,u 52,u 53,u 54,u 55,u 56,u 57,u 58,u 59,u 60,u 61,u 62,u 63,u 64,u 65,u 66,u 67,u 68,u 69,u 70,u 71,u 72,u 73,u 74,u 75,u 76,u 77,u 78,u 79,u 80,u 81,u 82,u 83,u 84,u 85,u 86,u 87,u 88,u 89,u 90,u 91,u 92,u 93,u 94,u 95,u 96,u 97,u 98,u 99,u 100,u 101,u 102,u 103,u 104,u 105,u 106,u 107,u 108,u 109,u 110,u 111,u 112,u 113,u 114,u 115,u 116,u 117,u 118,u 119,u 120,u 121,u 122,u 123,u 124,u 125,u 126,u 127,u 128,u 129,u 130,u 131,u 132,u 133,u 134,u 135,u 136,u 137,u 138,u 139,u 140,u 141,u 142,u 143,u 144,u 145,u 146,u 147,u 148,u 149,u 150,u 151,u 152,u 153,u 154,u 155,u 156,u 157,u 158,u 159,u 160,u 161,u 162,u 163,u 164,u 165,u 166,u 167,u 168,u 169,u 170,u 171,u 172,u 173,u 174,u 175,u 176,u 177,u 178,u 179,u 180,u 181,u 182,u 183,u 184,u 185,u 186,u 187,u 188,u 189,u 190,u 191,u 192,u 193,u 194,u 195,u 196,u 197,u 198,u 199,u 200]:=by
 refine⟨fun i=>l.getD i undef,?_⟩
 have e:l=(List.range 201).map (fun i=>l.getD i undef):=by
  refine List.ext_getElem (by simp[h]) (fun i h1 h2=>?_)
  simp[wC,gQ h1]
 exact e
theorem nV.intro {w:World} {M:Nat} {v4:Value} {l:List Value} {w':World} (h:l.length=201) (h0:l[0]?=some (.pointer (some ⟨M,0,none⟩))) (h2:l[2]?=some (.string ⟨#[]⟩)) (h4:l[4]?=some v4) (hb:Below w.heap.size w w'):nV w M v4 ⟨l.toArray,[]⟩ w':=by
 obtain⟨u,rfl⟩:=afX l h
 have e0:u 0=_:=dU h0
 have e2:u 2=_:=dU h2
 have e4:u 4=_:=dU h4
 exact⟨hb,u,by rw[e0,e2,e4]⟩
structure Cx (w:World) (ok:Nat→Prop) (M mb ty fl kG:Nat) (A0:Option Addr) (n c:Nat) (H:Nat→Option A):Prop where
 mg:Mg w ok M mb ty fl kG A0 n c H
 hok:yE ty fl H n
 pt:l7 w
 kG:kG<4294967296
 vK:∀d k,H d=some (.sc (.u k))→0≤k∧k<4294967296
 sz:∀d a s,H d=some a→(a=.sc (.s s)∨a=.sc (.o s))→s.size≤1000000
section
variable {w:World} {ok:Nat→Prop} {M mb ty fl kG:Nat} {A0:Option Addr} {n c:Nat} {H:Nat→Option A}
theorem ajJ (hc:Cx w ok M mb ty fl kG A0 n c H) (Q:Exit→Act→World→Prop) (X:bG) (hX:X.size≤100000000) (rest:∀a w',nV w M (.string (X++BQ nm7 (H 7))) a w'→oU (fun c=>bD (bD (bD (bD (c))))) Q a w') (a:Act) (w0:World) (ha:nV w M (.string X) a w0):oU (fun c=>bD (bD (bD (c)))) Q a w0:=by
 obtain⟨hb0,u,rfl⟩:=ha
 have HB:=ah hb0
 have HM:=ah hc.mg
 have DL:=ah hc.hok
 have PT:=ah hc.pt
 have Ia:=ah hc.vK
 have nY:=ah hc.sz
 have Io:=hc.kG
 clear hc hb0
 refine part (nV w M (.string (X++BQ nm7 (H 7)))) _ _ _ rfl rfl rest ?_
 clear rest
 intro _ _ _ _
 have MG:=ah (HM.o.below HB.o)
 have ⟨d0,d1,d2,d3,d4⟩:=MG.o.cells
 go_wp2_with (at_lookup;refine Hm.wp rfl (.tmp 36) _ rfl MG.o.map 7 (by decide) rfl rfl ?_ ?_)
 ·intro h0
  have HE:=ah h0
  clear h0
  go_wp2
  refine Met.intro ?_
  go_step
  exact nV.intro rfl rfl rfl (congrArg some (by rw[HE.o];show _=Value.string (X++(⟨#[]⟩:bG));rw[jG])) (HB.o.alloc HB.o.size _)
 ·intro a v he ha
  obtain⟨s,e1,e2⟩:=(wu a _ _ _ ha).1 (DL.o.kinds 7 a (by decide) he).2.2
  subst e2
  have hE:H 7=some (.sc (.s s)):=by rw[he,e1]
  have hu:=nY.o 7 a s he (by first|exact .inl e1|exact .inr e1)
  have H1:=fun w=>oZ w ⟨#[32,102,114,111,109,32]⟩ s (by show 6+_≤_;omega)
  have H2:=fun w=>oZ w X (⟨#[32,102,114,111,109,32]⟩++s) (by rw[gK];show _+(6+_)≤_;omega)
  have HE:=ah hE
  clear he e1 ha hE
  go_wp2
  refine Met.intro ?_
  go_step
  exact nV.intro rfl rfl rfl (congrArg some (by rw[HE.o];rfl)) (HB.o.alloc HB.o.size _)
theorem ajK (hc:Cx w ok M mb ty fl kG A0 n c H) (Q:Exit→Act→World→Prop) (X:bG) (hX:X.size≤100000000) (rest:∀a w',nV w M (.string (X++BQ nm6 (H 6))) a w'→oU (fun c=>bD (bD (bD (bD (bD (c)))))) Q a w') (a:Act) (w0:World) (ha:nV w M (.string X) a w0):oU (fun c=>bD (bD (bD (bD (c))))) Q a w0:=by
 obtain⟨hb0,u,rfl⟩:=ha
 have HB:=ah hb0
 have HM:=ah hc.mg
 have DL:=ah hc.hok
 have PT:=ah hc.pt
 have Ia:=ah hc.vK
 have nY:=ah hc.sz
 have Io:=hc.kG
 clear hc hb0
 refine part (nV w M (.string (X++BQ nm6 (H 6)))) _ _ _ rfl rfl rest ?_
 clear rest
 intro _ _ _ _
 have MG:=ah (HM.o.below HB.o)
 have ⟨d0,d1,d2,d3,d4⟩:=MG.o.cells
 go_wp2_with (at_lookup;refine Hm.wp rfl (.tmp 51) _ rfl MG.o.map 6 (by decide) rfl rfl ?_ ?_)
 ·intro h0
  have HE:=ah h0
  clear h0
  go_wp2
  refine Met.intro ?_
  go_step
  exact nV.intro rfl rfl rfl (congrArg some (by rw[HE.o];show _=Value.string (X++(⟨#[]⟩:bG));rw[jG])) (HB.o.alloc HB.o.size _)
 ·intro a v he ha
  obtain⟨s,e1,e2⟩:=(wu a _ _ _ ha).1 (DL.o.kinds 6 a (by decide) he).2.2
  subst e2
  have hE:H 6=some (.sc (.s s)):=by rw[he,e1]
  have hu:=nY.o 6 a s he (by first|exact .inl e1|exact .inr e1)
  have H1:=fun w=>oZ w ⟨#[32,116,111,32]⟩ s (by show 4+_≤_;omega)
  have H2:=fun w=>oZ w X (⟨#[32,116,111,32]⟩++s) (by rw[gK];show _+(4+_)≤_;omega)
  have HE:=ah hE
  clear he e1 ha hE
  go_wp2
  refine Met.intro ?_
  go_step
  exact nV.intro rfl rfl rfl (congrArg some (by rw[HE.o];rfl)) (HB.o.alloc HB.o.size _)
theorem ajL (hc:Cx w ok M mb ty fl kG A0 n c H) (Q:Exit→Act→World→Prop) (X:bG) (hX:X.size≤100000000) (rest:∀a w',nV w M (.string (X++(nm0++bs (nU kG)))) a w'→oU (fun c=>bD (bD (bD (bD (bD (bD (c))))))) Q a w') (a:Act) (w0:World) (ha:nV w M (.string X) a w0):oU (fun c=>bD (bD (bD (bD (bD (c)))))) Q a w0:=by
 obtain⟨hb0,u,rfl⟩:=ha
 have HB:=ah hb0
 have HM:=ah hc.mg
 have DL:=ah hc.hok
 have PT:=ah hc.pt
 have Ia:=ah hc.vK
 have nY:=ah hc.sz
 have Io:=hc.kG
 clear hc hb0
 refine part (nV w M (.string (X++(nm0++bs (nU kG))))) _ _ _ rfl rfl rest ?_
 clear rest
 intro _ _ _ _
 have MG:=ah (HM.o.below HB.o)
 have ⟨d0,d1,d2,d3,d4⟩:=MG.o.cells
 have FT:=ah (nC (kG:Int) (by omega) (by omega) _ (PT.o.ft.below HB.o))
 have hu:=qP (kG:Int) (by omega) (by omega)
 have H1:=fun w=>oZ w ⟨#[32,115,101,114,105,97,108,32]⟩ (bs (nU kG)) (by show 8+_≤_;omega)
 have H2:=fun w=>oZ w X (⟨#[32,115,101,114,105,97,108,32]⟩++bs (nU kG)) (by rw[gK];show _+(8+_)≤_;omega)
 go_wp2_with (go_at_call 58;refine FT.o.mono ?_;rintro e w2 ⟨rfl,hb⟩;have HB2:=ah (HB.o.trans (hb.mono HB.o.size));clear hb)
 refine Met.intro ?_
 go_step
 exact nV.intro rfl rfl rfl (rfl) (HB2.o)
theorem ajM (hc:Cx w ok M mb ty fl kG A0 n c H) (Q:Exit→Act→World→Prop) (X:bG) (hX:X.size≤100000000) (rest:∀a w',nV w M (.string (X++BQ nm5 (H 5))) a w'→oU (fun c=>bD (bD (bD (bD (bD (bD (bD (c)))))))) Q a w') (a:Act) (w0:World) (ha:nV w M (.string X) a w0):oU (fun c=>bD (bD (bD (bD (bD (bD (c))))))) Q a w0:=by
 obtain⟨hb0,u,rfl⟩:=ha
 have HB:=ah hb0
 have HM:=ah hc.mg
 have DL:=ah hc.hok
 have PT:=ah hc.pt
 have Ia:=ah hc.vK
 have nY:=ah hc.sz
 have Io:=hc.kG
 clear hc hb0
 refine part (nV w M (.string (X++BQ nm5 (H 5)))) _ _ _ rfl rfl rest ?_
 clear rest
 intro _ _ _ _
 have MG:=ah (HM.o.below HB.o)
 have ⟨d0,d1,d2,d3,d4⟩:=MG.o.cells
 go_wp2_with (at_lookup;refine Hm.wp rfl (.tmp 75) _ rfl MG.o.map 5 (by decide) rfl rfl ?_ ?_)
 ·intro h0
  have HE:=ah h0
  clear h0
  go_wp2
  refine Met.intro ?_
  go_step
  exact nV.intro rfl rfl rfl (congrArg some (by rw[HE.o];show _=Value.string (X++(⟨#[]⟩:bG));rw[jG])) (HB.o.alloc HB.o.size _)
 ·intro a v he ha
  obtain⟨s,e1,e2⟩:=(wu a _ _ _ ha).2.2 (DL.o.kinds 5 a (by decide) he).2.2
  subst e2
  have HR:=Ia.o 5 s (by rw[he,e1])
  have hE:H 5=some (.sc (.u s)):=by rw[he,e1]
  have FT:=ah (fun W (hW:Below w.heap.size w W)=>nC s HR.1 (by omega) W (PT.o.ft.below hW))
  have hu:=qP s HR.1 (by omega)
  have H1:=fun w=>oZ w ⟨#[32,114,101,112,108,121,95,115,101,114,105,97,108,32]⟩ (bs (nU s)) (by show 14+_≤_;omega)
  have H2:=fun w=>oZ w X (⟨#[32,114,101,112,108,121,95,115,101,114,105,97,108,32]⟩++bs (nU s)) (by rw[gK];show _+(14+_)≤_;omega)
  have HW:=ah (by have:=HR.1;have:=HR.2;rw[IntKind.wrap_u64];omega:IntKind.u64.wrap s=s)
  have HE:=ah hE
  clear he e1 ha HR hE
  go_wp2_with (go_at_call 58;rw[HW.o];refine(FT.o _ (HB.o.alloc HB.o.size _)).mono ?_;rintro e w2 ⟨rfl,hb⟩;have HB2:=ah ((HB.o.alloc HB.o.size _).trans (hb.mono (HB.o.alloc HB.o.size _).size));clear hb)
  refine Met.intro ?_
  go_step
  exact nV.intro rfl rfl rfl (congrArg some (by rw[HE.o];rfl)) (HB2.o)
theorem ajN (hc:Cx w ok M mb ty fl kG A0 n c H) (Q:Exit→Act→World→Prop) (X:bG) (hX:X.size≤100000000) (rest:∀a w',nV w M (.string (X++BQ nm9 (H 9))) a w'→oU (fun c=>bD (bD (bD (bD (bD (bD (bD (bD (c))))))))) Q a w') (a:Act) (w0:World) (ha:nV w M (.string X) a w0):oU (fun c=>bD (bD (bD (bD (bD (bD (bD (c)))))))) Q a w0:=by
 obtain⟨hb0,u,rfl⟩:=ha
 have HB:=ah hb0
 have HM:=ah hc.mg
 have DL:=ah hc.hok
 have PT:=ah hc.pt
 have Ia:=ah hc.vK
 have nY:=ah hc.sz
 have Io:=hc.kG
 clear hc hb0
 refine part (nV w M (.string (X++BQ nm9 (H 9)))) _ _ _ rfl rfl rest ?_
 clear rest
 intro _ _ _ _
 have MG:=ah (HM.o.below HB.o)
 have ⟨d0,d1,d2,d3,d4⟩:=MG.o.cells
 go_wp2_with (at_lookup;refine Hm.wp rfl (.tmp 92) _ rfl MG.o.map 9 (by decide) rfl rfl ?_ ?_)
 ·intro h0
  have HE:=ah h0
  clear h0
  go_wp2
  refine Met.intro ?_
  go_step
  exact nV.intro rfl rfl rfl (congrArg some (by rw[HE.o];show _=Value.string (X++(⟨#[]⟩:bG));rw[jG])) (HB.o.alloc HB.o.size _)
 ·intro a v he ha
  obtain⟨s,e1,e2⟩:=(wu a _ _ _ ha).2.2 (DL.o.kinds 9 a (by decide) he).2.2
  subst e2
  have HR:=Ia.o 9 s (by rw[he,e1])
  have hE:H 9=some (.sc (.u s)):=by rw[he,e1]
  have FT:=ah (fun W (hW:Below w.heap.size w W)=>nC s HR.1 (by omega) W (PT.o.ft.below hW))
  have hu:=qP s HR.1 (by omega)
  have H1:=fun w=>oZ w ⟨#[32,117,110,105,120,102,100,115,32]⟩ (bs (nU s)) (by show 9+_≤_;omega)
  have H2:=fun w=>oZ w X (⟨#[32,117,110,105,120,102,100,115,32]⟩++bs (nU s)) (by rw[gK];show _+(9+_)≤_;omega)
  have HW:=ah (by have:=HR.1;have:=HR.2;rw[IntKind.wrap_u64];omega:IntKind.u64.wrap s=s)
  have HE:=ah hE
  clear he e1 ha HR hE
  go_wp2_with (go_at_call 58;rw[HW.o];refine(FT.o _ (HB.o.alloc HB.o.size _)).mono ?_;rintro e w2 ⟨rfl,hb⟩;have HB2:=ah ((HB.o.alloc HB.o.size _).trans (hb.mono (HB.o.alloc HB.o.size _).size));clear hb)
  refine Met.intro ?_
  go_step
  exact nV.intro rfl rfl rfl (congrArg some (by rw[HE.o];rfl)) (HB2.o)
theorem ajO (hc:Cx w ok M mb ty fl kG A0 n c H) (Q:Exit→Act→World→Prop) (X:bG) (hX:X.size≤100000000) (rest:∀a w',nV w M (.string (X++BQ nm1 (H 1))) a w'→oU (fun c=>bD (bD (bD (bD (bD (bD (bD (bD (bD (c)))))))))) Q a w') (a:Act) (w0:World) (ha:nV w M (.string X) a w0):oU (fun c=>bD (bD (bD (bD (bD (bD (bD (bD (c))))))))) Q a w0:=by
 obtain⟨hb0,u,rfl⟩:=ha
 have HB:=ah hb0
 have HM:=ah hc.mg
 have DL:=ah hc.hok
 have PT:=ah hc.pt
 have Ia:=ah hc.vK
 have nY:=ah hc.sz
 have Io:=hc.kG
 clear hc hb0
 refine part (nV w M (.string (X++BQ nm1 (H 1)))) _ _ _ rfl rfl rest ?_
 clear rest
 intro _ _ _ _
 have MG:=ah (HM.o.below HB.o)
 have ⟨d0,d1,d2,d3,d4⟩:=MG.o.cells
 go_wp2_with (at_lookup;refine Hm.wp rfl (.tmp 109) _ rfl MG.o.map 1 (by decide) rfl rfl ?_ ?_)
 ·intro h0
  have HE:=ah h0
  clear h0
  go_wp2
  refine Met.intro ?_
  go_step
  exact nV.intro rfl rfl rfl (congrArg some (by rw[HE.o];show _=Value.string (X++(⟨#[]⟩:bG));rw[jG])) (HB.o.alloc HB.o.size _)
 ·intro a v he ha
  obtain⟨s,e1,e2⟩:=(wu a _ _ _ ha).2.1 (DL.o.kinds 1 a (by decide) he).2.2
  subst e2
  have hE:H 1=some (.sc (.o s)):=by rw[he,e1]
  have hu:=nY.o 1 a s he (by first|exact .inl e1|exact .inr e1)
  have H1:=fun w=>oZ w ⟨#[32,112,97,116,104,32]⟩ s (by show 6+_≤_;omega)
  have H2:=fun w=>oZ w X (⟨#[32,112,97,116,104,32]⟩++s) (by rw[gK];show _+(6+_)≤_;omega)
  have HE:=ah hE
  clear he e1 ha hE
  go_wp2
  refine Met.intro ?_
  go_step
  exact nV.intro rfl rfl rfl (congrArg some (by rw[HE.o];rfl)) (HB.o.alloc HB.o.size _)
theorem ajP (hc:Cx w ok M mb ty fl kG A0 n c H) (Q:Exit→Act→World→Prop) (X:bG) (hX:X.size≤100000000) (rest:∀a w',nV w M (.string (X++BQ nm2 (H 2))) a w'→oU (fun c=>bD (bD (bD (bD (bD (bD (bD (bD (bD (bD (c))))))))))) Q a w') (a:Act) (w0:World) (ha:nV w M (.string X) a w0):oU (fun c=>bD (bD (bD (bD (bD (bD (bD (bD (bD (c)))))))))) Q a w0:=by
 obtain⟨hb0,u,rfl⟩:=ha
 have HB:=ah hb0
 have HM:=ah hc.mg
 have DL:=ah hc.hok
 have PT:=ah hc.pt
 have Ia:=ah hc.vK
 have nY:=ah hc.sz
 have Io:=hc.kG
 clear hc hb0
 refine part (nV w M (.string (X++BQ nm2 (H 2)))) _ _ _ rfl rfl rest ?_
 clear rest
 intro _ _ _ _
 have MG:=ah (HM.o.below HB.o)
 have ⟨d0,d1,d2,d3,d4⟩:=MG.o.cells
 go_wp2_with (at_lookup;refine Hm.wp rfl (.tmp 124) _ rfl MG.o.map 2 (by decide) rfl rfl ?_ ?_)
 ·intro h0
  have HE:=ah h0
  clear h0
  go_wp2
  refine Met.intro ?_
  go_step
  exact nV.intro rfl rfl rfl (congrArg some (by rw[HE.o];show _=Value.string (X++(⟨#[]⟩:bG));rw[jG])) (HB.o.alloc HB.o.size _)
 ·intro a v he ha
  obtain⟨s,e1,e2⟩:=(wu a _ _ _ ha).1 (DL.o.kinds 2 a (by decide) he).2.2
  subst e2
  have hE:H 2=some (.sc (.s s)):=by rw[he,e1]
  have hu:=nY.o 2 a s he (by first|exact .inl e1|exact .inr e1)
  have H1:=fun w=>oZ w ⟨#[32,105,110,116,101,114,102,97,99,101,32]⟩ s (by show 11+_≤_;omega)
  have H2:=fun w=>oZ w X (⟨#[32,105,110,116,101,114,102,97,99,101,32]⟩++s) (by rw[gK];show _+(11+_)≤_;omega)
  have HE:=ah hE
  clear he e1 ha hE
  go_wp2
  refine Met.intro ?_
  go_step
  exact nV.intro rfl rfl rfl (congrArg some (by rw[HE.o];rfl)) (HB.o.alloc HB.o.size _)
theorem ajQ (hc:Cx w ok M mb ty fl kG A0 n c H) (Q:Exit→Act→World→Prop) (X:bG) (hX:X.size≤100000000) (rest:∀a w',nV w M (.string (X++BQ nm4 (H 4))) a w'→oU (fun c=>bD (bD (bD (bD (bD (bD (bD (bD (bD (bD (bD (c)))))))))))) Q a w') (a:Act) (w0:World) (ha:nV w M (.string X) a w0):oU (fun c=>bD (bD (bD (bD (bD (bD (bD (bD (bD (bD (c))))))))))) Q a w0:=by
 obtain⟨hb0,u,rfl⟩:=ha
 have HB:=ah hb0
 have HM:=ah hc.mg
 have DL:=ah hc.hok
 have PT:=ah hc.pt
 have Ia:=ah hc.vK
 have nY:=ah hc.sz
 have Io:=hc.kG
 clear hc hb0
 refine part (nV w M (.string (X++BQ nm4 (H 4)))) _ _ _ rfl rfl rest ?_
 clear rest
 intro _ _ _ _
 have MG:=ah (HM.o.below HB.o)
 have ⟨d0,d1,d2,d3,d4⟩:=MG.o.cells
 go_wp2_with (at_lookup;refine Hm.wp rfl (.tmp 139) _ rfl MG.o.map 4 (by decide) rfl rfl ?_ ?_)
 ·intro h0
  have HE:=ah h0
  clear h0
  go_wp2
  refine Met.intro ?_
  go_step
  exact nV.intro rfl rfl rfl (congrArg some (by rw[HE.o];show _=Value.string (X++(⟨#[]⟩:bG));rw[jG])) (HB.o.alloc HB.o.size _)
 ·intro a v he ha
  obtain⟨s,e1,e2⟩:=(wu a _ _ _ ha).1 (DL.o.kinds 4 a (by decide) he).2.2
  subst e2
  have hE:H 4=some (.sc (.s s)):=by rw[he,e1]
  have hu:=nY.o 4 a s he (by first|exact .inl e1|exact .inr e1)
  have H1:=fun w=>oZ w ⟨#[32,101,114,114,111,114,32]⟩ s (by show 7+_≤_;omega)
  have H2:=fun w=>oZ w X (⟨#[32,101,114,114,111,114,32]⟩++s) (by rw[gK];show _+(7+_)≤_;omega)
  have HE:=ah hE
  clear he e1 ha hE
  go_wp2
  refine Met.intro ?_
  go_step
  exact nV.intro rfl rfl rfl (congrArg some (by rw[HE.o];rfl)) (HB.o.alloc HB.o.size _)
theorem ajR (hc:Cx w ok M mb ty fl kG A0 n c H) (Q:Exit→Act→World→Prop) (X:bG) (hX:X.size≤100000000) (rest:∀a w',nV w M (.string (X++BQ nm3 (H 3))) a w'→oU (fun c=>bD (bD (bD (bD (bD (bD (bD (bD (bD (bD (bD (bD (c))))))))))))) Q a w') (a:Act) (w0:World) (ha:nV w M (.string X) a w0):oU (fun c=>bD (bD (bD (bD (bD (bD (bD (bD (bD (bD (bD (c)))))))))))) Q a w0:=by
 obtain⟨hb0,u,rfl⟩:=ha
 have HB:=ah hb0
 have HM:=ah hc.mg
 have DL:=ah hc.hok
 have PT:=ah hc.pt
 have Ia:=ah hc.vK
 have nY:=ah hc.sz
 have Io:=hc.kG
 clear hc hb0
 refine part (nV w M (.string (X++BQ nm3 (H 3)))) _ _ _ rfl rfl rest ?_
 clear rest
 intro _ _ _ _
 have MG:=ah (HM.o.below HB.o)
 have ⟨d0,d1,d2,d3,d4⟩:=MG.o.cells
 go_wp2_with (at_lookup;refine Hm.wp rfl (.tmp 154) _ rfl MG.o.map 3 (by decide) rfl rfl ?_ ?_)
 ·intro h0
  have HE:=ah h0
  clear h0
  go_wp2
  refine Met.intro ?_
  go_step
  exact nV.intro rfl rfl rfl (congrArg some (by rw[HE.o];show _=Value.string (X++(⟨#[]⟩:bG));rw[jG])) (HB.o.alloc HB.o.size _)
 ·intro a v he ha
  obtain⟨s,e1,e2⟩:=(wu a _ _ _ ha).1 (DL.o.kinds 3 a (by decide) he).2.2
  subst e2
  have hE:H 3=some (.sc (.s s)):=by rw[he,e1]
  have hu:=nY.o 3 a s he (by first|exact .inl e1|exact .inr e1)
  have H1:=fun w=>oZ w ⟨#[32,109,101,109,98,101,114,32]⟩ s (by show 8+_≤_;omega)
  have H2:=fun w=>oZ w X (⟨#[32,109,101,109,98,101,114,32]⟩++s) (by rw[gK];show _+(8+_)≤_;omega)
  have HE:=ah hE
  clear he e1 ha hE
  go_wp2
  refine Met.intro ?_
  go_step
  exact nV.intro rfl rfl rfl (congrArg some (by rw[HE.o];rfl)) (HB.o.alloc HB.o.size _)
end
end
section
theorem acN {f:Code→Code} {Q:Exit→Act→World→Prop} {a:Act} {w:World} (c x y:Code) (hb:f35.body=some c) (hf:f c=.seq x y) (h:(Code.seq x y).wp prog Q a w):oU f Q a w:=by
 intro c' hc'
 cases dU (hb.symm.trans hc')
 rw[hf]
 exact h
section
variable {w:World} {ok:Nat→Prop} {M mb ty fl kG:Nat} {A0:Option Addr} {n c:Nat} {H:Nat→Option A} {body:List A} {vs:List Value}
def TB (n:Nat):bG:=if n=0 then⟨#[]⟩else⟨#[10]⟩
theorem ajS (hc:Cx w ok M mb ty fl kG A0 n c H) (Q:Exit→Act→World→Prop) (X:bG) (hX:X.size≤100000000) (rest:∀a w',nV w M (.string (X++TB n)) a w'→oU (fun c=>bD (bD (bD (bD (bD (bD (bD (bD (bD (bD (bD (bD (bD c))))))))))))) Q a w') (a:Act) (w0:World) (ha:nV w M (.string X) a w0):oU (fun c=>bD (bD (bD (bD (bD (bD (bD (bD (bD (bD (bD (bD c)))))))))))) Q a w0:=by
 obtain⟨hb0,u,rfl⟩:=ha
 have HB:=ah hb0
 have HM:=ah hc.mg
 clear hc hb0
 refine part (nV w M (.string (X++TB n))) _ _ _ rfl rfl rest ?_
 clear rest
 intro _ _ _ _
 have MG:=ah (HM.o.below HB.o)
 have ⟨d0,d1,d2,d3,d4⟩:=MG.o.cells
 have H1:=fun w=>oZ w X ⟨#[10]⟩ (by show _+1≤_;omega)
 by_cases h0:n=0
 ·have HE:=ah (by simp[TB,h0]:TB n=⟨#[]⟩)
  have hn0:((n:Int) != 0)=false:=by subst h0;rfl
  clear h0
  go_wp2
  refine Met.intro ?_
  go_step
  exact nV.intro rfl rfl rfl (congrArg some (by rw[HE.o,jG])) HB.o
 ·have HE:=ah (by simp[TB,h0]:TB n=⟨#[10]⟩)
  have hn0:((n:Int) != 0)=true:=by simp;omega
  clear h0
  go_wp2
  refine Met.intro ?_
  go_step
  exact nV.intro rfl rfl rfl (congrArg some (by rw[HE.o])) HB.o
theorem ajT (hc:Cx w ok M mb ty fl kG A0 n c H) (hr:Row w ok 20 (.slice A0 n c) vs) (hls:nX w ok body vs) (hn:n≤1000000) (hfmt:∀(i:Nat) (h:i<body.length),og body[i]∧body[i].fmt.1.length≤10000000∧body[i].dN.f_) (X:bG) (hX:X.size≤100000001) (a:Act) (w0:World) (ha:nV w M (.string X) a w0) :
  oU (fun c=>bD (bD (bD (bD (bD (bD (bD (bD (bD (bD (bD (bD (bD c))))))))))))) (bodyPost prog f35 fun e w'=>e=.returned (.string (X++o7 body n n))∧Below w.heap.size w w') a w0:=by
 obtain⟨hb0,u,rfl⟩:=ha
 have HB:=ah hb0
 have HM:=ah hc.mg
 have PT:=ah hc.pt
 have apH:=ah hfmt
 have hlen:=hls.len
 obtain⟨A1,c1,e,hc1,hcm,hrow⟩:=hr.cell
 have hvn:vs.length=n:=by injection e with _ e _;exact e.symm
 have e1:A0=A1:=by injection e
 subst e1
 have HL:=ah (⟨by omega,hrow⟩:body.length=n∧_)
 have HLS:=ah hls
 have HNV:=ah hvn
 clear hc hb0 hfmt hr hls hrow hc1 hcm hlen hvn e
 refine acN _ _ _ rfl rfl ?_
 have MG:=ah (HM.o.below HB.o)
 have ⟨d0,d1,d2,d3,d4⟩:=MG.o.cells
 go_wp2
 clear d0 d1 d2 d3 d4 MG
 go_loopw [178,4] (fun t s wr=>∃k:Nat,k≤n∧t=.int .i64 k∧s=.string (X++o7 body n k)∧aj ((X++o7 body n k).size≤100000001+k*20000000∧Below w.heap.size w wr)) (fun t _ _=>n-(intOf t).toNat)
 case atStart=>exact⟨0,jf _,rfl,by rw[show o7 body n 0=(⟨#[]⟩:bG)from rfl,jG],⟨by rw[show o7 body n 0=(⟨#[]⟩:bG)from rfl,jG];omega,HB.o⟩⟩
 case round =>
  clear HB
  obtain⟨k,hk,rfl,rfl,HB0⟩:=hrel
  have HB:=ah HB0.o.2
  have hsz:=HB0.o.1
  clear HB0
  by_cases hlt:k<n
  ·have hd:decide ((k:Int)<(n:Int))=true:=by simp;omega
   have hkl:k<body.length:=by have:=HL.o.1;omega
   obtain⟨vk,hvk,BU⟩:=HLS.o.get k hkl
   obtain⟨tv,uv,rfl⟩:=BU.iface
   obtain⟨g,rfl,hcell⟩:=HL.o.2 (by have:=HNV.o;omega)
   have CK:=hcell k _ hvk
   have ck:=(HB.o.cell (fA w _ CK)).trans CK
   have HF:=ah (apH.o k hkl)
   have HA1:=ah BU
   obtain⟨S,hS⟩:∃S,bs body[k].str=S:=⟨_,rfl⟩
   have HSS:=ah (by simp only[o7,gQ hkl,hS]:o7 body n (k+1)=o7 body n k++((⟨#[32,32]⟩:bG)++S)++(if k+1=n then⟨#[]⟩else⟨#[10]⟩))
   have hSz:S.size≤10000300:=by
    rw[←hS,aH]
    have h1:=HF.o.2.1
    have h2:=HF.o.2.2.2.2.1
    unfold A.str
    split
    ·omega
    ·simp only[dY,d_,kW];omega
   have MV:=ah (fun W (hW:Below w.heap.size w W)=>mkVar body[k] HF.o.2.2 _ ok W (HA1.o.below hW))
   have VS:=ah (fun W (hW:Below w.heap.size w W)=>(hS▸Xo body[k] HF.o.1 HF.o.2.1 (by have:=HF.o.2.2.2.2.1;omega) ok _ W (HA1.o.below hW) (PT.o.below hW):fC 32 #[.agg #[.string (bs body[k].dN.sig),.iface tv uv]] W (.string S)))
   generalize bs body[k].dN.sig=SG at MV VS
   clear hS BU CK hvk hcell
   have MG:=ah (HM.o.below HB.o)
   have ⟨d0,d1,d2,d3,d4⟩:=MG.o.cells
   have HXX:=ah (⟨rfl,rfl⟩:X=X∧n=n)
   obtain⟨XX,hXX⟩:∃XX,X++o7 body n k=XX:=⟨_,rfl⟩
   have HX:=ah hXX
   rw[hXX]at hsz
   rw[hXX]
   clear hXX
   have H1:=fun w=>oZ w ⟨#[32,32]⟩ S (by show 2+_≤_;omega)
   have H2:=fun w=>oZ w XX (⟨#[32,32]⟩++S) (by rw[gK];show _+(2+_)≤_;omega)
   have H3:=fun w=>oZ w (XX++(⟨#[32,32]⟩++S)) ⟨#[10]⟩ (by rw[gK,gK];show _+(2+_)+1≤_;omega)
   have hsub:(n:Int)-1=((n-1:Nat):Int):=by omega
   have hw1:wrap64 ((n:Int)-1)=((n-1:Nat):Int):=by unfold wrap64;omega
   by_cases hke:k+1=n
   ·have hne:((k:Int) != ((n-1:Nat):Int))=false:=by simp;omega
    have HT:=ah (by rw[HSS.o,if_pos hke,jG,←pK,HX.o]:X++o7 body n (k+1)=XX++((⟨#[32,32]⟩:bG)++S))
    clear HSS
    go_wp2_with ((first|(go_at_call 30;refine(MV.o _ HB.o).mono ?_)|(go_at_call 32;refine(VS.o _ HB.o).mono ?_));rintro e w2 ⟨rfl,hb⟩;have HB:=ah (HB.o.trans (hb.mono HB.o.size));have MG:=ah (HM.o.below HB.o);have ⟨d0,d1,d2,d3,d4⟩:=MG.o.cells;clear hb)
    go_roundw
    case rel=>exact⟨k+1,by omega,by go_num,by rw[HT.o],⟨by rw[HT.o,gK,gK];show _+(2+_)≤_;omega,HB.o⟩⟩
    case measure=>simp[intOf];omega
   ·have hne:((k:Int) != ((n-1:Nat):Int))=true:=by simp;omega
    have HT:=ah (by rw[HSS.o,if_neg hke,←pK,←pK,HX.o,pK XX]:X++o7 body n (k+1)=XX++((⟨#[32,32]⟩:bG)++S)++⟨#[10]⟩)
    clear HSS
    go_wp2_with ((first|(go_at_call 30;refine(MV.o _ HB.o).mono ?_)|(go_at_call 32;refine(VS.o _ HB.o).mono ?_));rintro e w2 ⟨rfl,hb⟩;have HB:=ah (HB.o.trans (hb.mono HB.o.size));have MG:=ah (HM.o.below HB.o);have ⟨d0,d1,d2,d3,d4⟩:=MG.o.cells;clear hb)
    go_roundw
    case rel=>exact⟨k+1,by omega,by go_num,by rw[HT.o],⟨by rw[HT.o,gK,gK,gK];show _+(2+_)+1≤_;omega,HB.o⟩⟩
    case measure=>simp[intOf];omega
  ·have hd:decide ((k:Int)<(n:Int))=false:=by simp;omega
   have hkn:k=n:=by omega
   subst hkn
   go_wp2
   go_ret
   exact⟨rfl,HB.o⟩
theorem agp (hc:Cx w ok M mb ty fl kG A0 n c H) (Q:Exit→Act→World→Prop) (v4:Value) (rest:∀a w',nV w M (.string (Zm ty)) a w'→oU (fun c=>bD (bD (bD c))) Q a w') (a:Act) (w0:World) (ha:nV w M v4 a w0):oU (fun c=>bD (bD c)) Q a w0:=by
 obtain⟨hb0,u,rfl⟩:=ha
 have HB:=ah hb0
 have HM:=ah hc.mg
 have HT:=ah (fun W=>amQ ty hc.hok.type.1 hc.hok.type.2 W)
 clear hc hb0
 refine part (nV w M (.string (Zm ty))) _ _ _ rfl rfl rest ?_
 clear rest
 intro _ _ _ _
 have MG:=ah (HM.o.below HB.o)
 have ⟨d0,d1,d2,d3,d4⟩:=MG.o.cells
 go_wp2_with (go_at_call 57;refine gU (HT.o _) ?_)
 refine Met.intro ?_
 go_step
 exact nV.intro rfl rfl rfl rfl HB.o
theorem Qr (hc:Cx w ok M mb ty fl kG A0 n c H) (nm:bG) (d:Nat):(BQ nm (H d)).size≤nm.size+1000000:=abk nm (H d) (fun a s e=>hc.sz d a s e) (fun k e=>hc.vK d k e)
theorem ajU (hc:Cx w ok M mb ty fl kG A0 n c H) (Q:Exit→Act→World→Prop) (rest:∀a w',nV w M (.string (vZ ty kG H++TB n)) a w'→oU (fun c=>bD (bD (bD (bD (bD (bD (bD (bD (bD (bD (bD (bD (bD c))))))))))))) Q a w') (v4:Value) (a:Act) (w0:World) (ha:nV w M v4 a w0):oU (fun c=>bD (bD c)) Q a w0:=by
 have h0:(Zm ty).size≤20:=by unfold Zm;split<;>decide
 have hu:=qP (kG:Int) (by omega) (by have:=hc.kG;omega)
 have g7:=Qr hc nm7 7
 have g6:=Qr hc nm6 6
 have g5:=Qr hc nm5 5
 have g9:=Qr hc nm9 9
 have g1:=Qr hc nm1 1
 have g2:=Qr hc nm2 2
 have g4:=Qr hc nm4 4
 have g3:=Qr hc nm3 3
 rw[show nm7.size=6 from rfl]at g7
 rw[show nm6.size=4 from rfl]at g6
 rw[show nm5.size=14 from rfl]at g5
 rw[show nm9.size=9 from rfl]at g9
 rw[show nm1.size=6 from rfl]at g1
 rw[show nm2.size=11 from rfl]at g2
 rw[show nm4.size=7 from rfl]at g4
 rw[show nm3.size=8 from rfl]at g3
 have e0:nm0.size=8:=rfl
 refine agp hc Q v4 (fun a w0 ha=>?_) a w0 ha
 refine ajJ hc Q _ (by omega) (fun a w0 ha=>?_) a w0 ha
 refine ajK hc Q _ ?_ (fun a w0 ha=>?_) a w0 ha
 ·simp only[gK];omega
 refine ajL hc Q _ ?_ (fun a w0 ha=>?_) a w0 ha
 ·simp only[gK];omega
 refine ajM hc Q _ ?_ (fun a w0 ha=>?_) a w0 ha
 ·simp only[gK];omega
 refine ajN hc Q _ ?_ (fun a w0 ha=>?_) a w0 ha
 ·simp only[gK];omega
 refine ajO hc Q _ ?_ (fun a w0 ha=>?_) a w0 ha
 ·simp only[gK];omega
 refine ajP hc Q _ ?_ (fun a w0 ha=>?_) a w0 ha
 ·simp only[gK];omega
 refine ajQ hc Q _ ?_ (fun a w0 ha=>?_) a w0 ha
 ·simp only[gK];omega
 refine ajR hc Q _ ?_ (fun a w0 ha=>?_) a w0 ha
 ·simp only[gK];omega
 refine ajS hc Q _ ?_ (fun a w0 ha=>rest a w0 ha) a w0 ha
 unfold vZ
 simp only[gK];omega
theorem Sm (hc:Cx w ok M mb ty fl kG A0 n c H):(vZ ty kG H++TB n).size≤100000001:=by
 have h0:(Zm ty).size≤20:=by unfold Zm;split<;>decide
 have hu:=qP (kG:Int) (by omega) (by have:=hc.kG;omega)
 have g7:=Qr hc nm7 7
 have g6:=Qr hc nm6 6
 have g5:=Qr hc nm5 5
 have g9:=Qr hc nm9 9
 have g1:=Qr hc nm1 1
 have g2:=Qr hc nm2 2
 have g4:=Qr hc nm4 4
 have g3:=Qr hc nm3 3
 rw[show nm7.size=6 from rfl]at g7
 rw[show nm6.size=4 from rfl]at g6
 rw[show nm5.size=14 from rfl]at g5
 rw[show nm9.size=9 from rfl]at g9
 rw[show nm1.size=6 from rfl]at g1
 rw[show nm2.size=11 from rfl]at g2
 rw[show nm4.size=7 from rfl]at g4
 rw[show nm3.size=8 from rfl]at g3
 have e0:nm0.size=8:=rfl
 have e1:(TB n).size≤1:=by unfold TB;split<;>decide
 unfold vZ
 simp only[gK]
 omega
theorem ai5 (h:MOk w ok M mb ty fl kG A0 n c H body vs) (h2:w.cell? ⟨2,0,none⟩=some (.iface 342 (.agg #[]))) (pt:l7 w) (Io:kG<4294967296) (aiQ:∀d k,H d=some (.sc (.u k))→0≤k∧k<4294967296)
  (hfmt:∀(i:Nat) (h:i<body.length),og body[i]∧body[i].fmt.1.length≤10000000∧body[i].dN.f_) :
  Calls prog 35 #[.pointer (some ⟨M,0,none⟩)] w fun e w'=>((yE ty fl H n∧e=.returned (.string (vZ ty kG H++TB n++o7 body n n)))∨(¬yE ty fl H n∧e=.returned (.string ⟨#[60,105,110,118,97,108,105,100,62]⟩)))∧Below w.heap.size w w':=by
 have IV:=ah (isValid h h2)
 by_cases hok:yE ty fl H n
 ·have hc:Cx w ok M mb ty fl kG A0 n c H:=⟨h.mg,hok,pt,Io,aiQ,h.sz⟩
  have ST:=ah (fun v4 a w0 ha=>ajU hc (bodyPost prog f35 fun e w'=>e=.returned (.string (vZ ty kG H++TB n++o7 body n n))∧Below w.heap.size w w')
   (fun a w1 ha=>ajT hc h.row h.has h.nb hfmt _ (Sm hc) a w1 ha) v4 a w0 ha)
  have DL:=ah hok
  clear h h2 pt aiQ hfmt hc
  refine(?_:fC 35 #[.pointer (some ⟨M,0,none⟩)] w (.string (vZ ty kG H++TB n++o7 body n n))).mono (fun e w' h=>⟨.inl ⟨hok,h.1⟩,h.2⟩)
  clear hok
  go_enter func35,ntmps35
  refine adz (nV w M undef) (fun a w0 ha=>ST.o undef a w0 ha _ rfl) ?_
  clear ST
  intro _ _ _ _ _ _
  go_wp2_with (go_at_call 56;refine IV.o.mono ?_;rintro e w1 ⟨hb,h1⟩;obtain⟨rfl,-⟩:=(h1.resolve_right fun h=>h.2 DL.o);have HB:=ah hb;clear hb h1)
  refine Met.intro ?_
  go_step
  exact nV.intro rfl rfl rfl rfl HB.o
 ·have DL:=ah hok
  clear h h2 hok pt aiQ hfmt
  go_enter func35,ntmps35
  go_wp2_with (go_at_call 56;refine IV.o.mono ?_;rintro e w1 ⟨hb,h1⟩;obtain⟨⟨s,rfl⟩,-⟩:=(h1.resolve_left fun h=>DL.o h.2);have HB:=ah hb;clear hb h1)
  go_ret
  exact⟨.inr ⟨DL.o,rfl⟩,HB.o⟩
end
end
structure ZB (a:A):Prop where
 f_:a.dN.f_
 wQ:a.wQ
 eok:a.CW
 tl:a.tl≤10000000
 ec:a.ec≤950000
 dep:a.dep≤60
theorem ZB.enc {a:A} (h:ZB a):mG a:=U5 _ a bW h.f_ h.wQ h.eok
theorem ZB.fmt {a:A} (h:ZB a):og a∧a.fmt.1.length≤10000000∧a.dN.f_:=⟨U8 _ a bW h.f_ h.wQ h.tl,Nat.le_trans (A.xJ a h.wQ) h.tl,h.f_⟩
theorem ae3 (l:List (Nat×A)) (d:Nat) (a:A) (h:Ee l d=some a):(d,a)∈l:=by
 have gen:∀(l:List (Nat×A)) (H:Nat→Option A),l.foldl (fun H p=>Ib H p.1 p.2) H d=some a→H d=some a∨(d,a)∈l:=by
  intro l
  induction l with
  |nil=>intro H h;exact .inl h
  |cons p l ih =>
   intro H h
   rcases ih _ h with h1|h1
   ·have h1:(if d=p.1 then some p.2 else H d)=some a:=h1
    split at h1
    ·rename_i e;cases h1;subst e;exact .inr (by simp)
    ·exact .inl h1
   ·exact .inr (by simp[h1])
 rcases gen l _ h with h1|h1
 ·cases h1
 ·exact h1
theorem aii:(T.base 121).f_:=by simp[T.f_,T.wf,T.fits,T.sig,T.ty,dM]
theorem aif:(T.base 118).f_:=by simp[T.f_,T.wf,T.fits,T.sig,T.ty,dM]
theorem aeH:(T.str [.base 121,.base 118]).f_:=by simp[T.f_,T.wf,T.fits,T.sig,T.ty,T.sigs,T.nI,T.NV,T.qC,dM]
theorem ae0 (H:Nat→Option A) (k:Nat) (e:A) (h:e∈xK H k):∃c a,c<k∧H c=some a∧e=.jJ [.sc (.y c),.var a.dN a]:=by
 induction k with
 |zero=>cases h
 |succ k ih =>
  simp only[xK,List.mem_append]at h
  rcases h with h|h
  ·obtain⟨c,a,h1,h2⟩:=ih h
   exact⟨c,a,by omega,h2⟩
  ·split at h
   ·cases h
   ·rename_i a ha
    cases List.mem_singleton.1 h
    exact⟨k,a,by omega,ha,rfl⟩
theorem aie:(T.arr (.str [.base 121,.base 118])).f_:=by simp[T.f_,T.wf,T.fits,T.sig,T.ty,T.sigs,T.nI,T.NV,T.qC,dM]
theorem OL:∀(l:List A),(∀e∈l,e.wQ)→A.Gl l
 |[],_=>trivial
 |a::l,h=>⟨h a (by simp),OL l (fun e he=>h e (by simp[he]))⟩
theorem Jd:∀(l:List A),(∀e∈l,e.CW)→A.vW l
 |[],_=>trivial
 |a::l,h=>⟨h a (by simp),Jd l (fun e he=>h e (by simp[he]))⟩
theorem UY (B:Nat):∀(l:List A),(∀e∈l,e.ec≤B)→A.qM l≤l.length*(B+64)
 |[],_=>jf _
 |a::l,h=>by
  have h1:=h a (by simp)
  have h2:=UY B l (fun e he=>h e (by simp[he]))
  simp only[A.qM,d_,Nat.succ_mul]
  omega
theorem OC (B:Nat):∀(l:List A),(∀e∈l,e.dep≤B)→A.nS l≤B
 |[],_=>jf _
 |a::l,h=>by
  have h1:=h a (by simp)
  have h2:=OC B l (fun e he=>h e (by simp[he]))
  simp only[A.nS]
  omega
theorem aiz (H:Nat→Option A) (h:∀c a,H c=some a→ZB a):mG (.list (.str [.base 121,.base 118]) (xK H 10))∧(A.list (.str [.base 121,.base 118]) (xK H 10)).ec≤20000000∧(A.list (.str [.base 121,.base 118]) (xK H 10)).dep≤64:=by
 have hm:∀e∈xK H 10,∃(c:Nat) (a:A),c<10∧ZB a∧e=.jJ [.sc (.y c),.var a.dN a]:=fun e he=>by
  obtain⟨c,a,h1,h2,h3⟩:=ae0 H 10 e he
  exact⟨c,a,h1,h c a h2,h3⟩
 have ht:∀e∈xK H 10,e.dN=.str [.base 121,.base 118]:=fun e he=>by
  obtain⟨c,a,_,_,rfl⟩:=hm e he
  rfl
 have hf:∀e∈xK H 10,e.wQ:=fun e he=>by
  obtain⟨c,a,h1,h2,rfl⟩:=hm e he
  refine⟨by show 2≤_;omega,fun x hx=>?_,⟨?_,⟨rfl,h2.f_,h2.wQ⟩,trivial⟩⟩
  ·simp only[List.mem_cons,List.not_mem_nil,or_false]at hx
   rcases hx with rfl|rfl
   ·exact aii
   ·exact aif
  ·show 0≤(c:Int)∧(c:Int)<256
   omega
 have he:∀e∈xK H 10,e.CW:=fun e he=>by
  obtain⟨c,a,h1,h2,rfl⟩:=hm e he
  exact⟨trivial,h2.eok,trivial⟩
 have hc:∀e∈xK H 10,e.ec≤1000000:=fun e he=>by
  obtain⟨c,a,h1,h2,rfl⟩:=hm e he
  have:=h2.ec
  have:=h2.f_.2.2.1
  simp only[A.ec,A.qM,Sc.ec]
  omega
 have hd:∀e∈xK H 10,e.dep≤62:=fun e he=>by
  obtain⟨c,a,h1,h2,rfl⟩:=hm e he
  have:=h2.dep
  simp only[A.dep,A.nS]
  omega
 have hlen:=Vp H 10
 refine⟨U5 _ _ bW aie ⟨by omega,ht,aeH,OL _ hf⟩ (Jd _ he),?_,?_⟩
 ·have:=UY 1000000 _ hc
  simp only[A.ec]
  have h2:(xK H 10).length*(1000000+64)≤10*(1000000+64):=Nat.mul_le_mul_right _ hlen
  omega
 ·have:=OC 62 _ hd
  simp only[A.dep]
  omega
structure BOk (l:List (Nat×A)) (body:List A):Prop where
 lf:l.length≤20
 fd:∀p∈l,p.1<256∧ZB p.2
 bd:∀e∈body,ZB e
 lb:body.length≤999999
 ec:A.qM body≤10000000
theorem BOk.field {l:List (Nat×A)} {body:List A} (h:BOk l body) (d:Nat) (a:A) (e:Ee l d=some a):ZB a:=(h.fd (d,a) (ae3 l d a e)).2
theorem BOk.mok {l:List (Nat×A)} {body:List A} (h:BOk l body) {w W:World} {t f s mb M:Nat} {A0:Option Addr} {c m:Nat} (ht:t<256) (hf:f<256) (hm:m≤1000) (hF:Fm w W t f s mb M A0 body.length c (Ee l) m body) (hT:Lib.Utf8Tabs 8 9 W) :
  ∃ok vs,MOk W ok M mb t f s A0 body.length c (Ee l) body vs:=by
 obtain⟨vs,hr,hls⟩:=hF.row
 obtain⟨h1,h2,h3⟩:=aiz (Ee l) (fun c a e=>h.field c a e)
 refine⟨_,vs,⟨hF.kE,hF.map.hm hm,fun d a hd e=>(h.field d a e).f_.2.2.2⟩,ht,hf,by have:=h.lb;omega,fun d a s e hs=>?_,hr,hls.mono (fun k hk=>hk.1),fun e he=>⟨(h.bd e he).enc,(h.bd e he).f_.2.2.2,by have:=(h.bd e he).dep;omega⟩,h.ec,h1,h2,h3,hT⟩
 have:=(h.field d a e).wQ
 rcases hs with rfl|rfl<;>exact this
def ai6 (t s:Nat) (H:Nat→Option A) (l:List A):bG:=vZ t s H++TB l.length++o7 l l.length l.length
def A_:bG:=⟨#[60,105,110,118,97,108,105,100,62]⟩
def ahG (t f s:Nat) (l:List (Nat×A)) (body:List A) (X:bG):Prop:=(yE t f (Ee l) body.length∧X=ai6 t s (Ee l) body)∨(¬yE t f (Ee l) body.length∧X=A_)
theorem aaJ (t f s:Nat) (ht:t<256) (hf:f<256) (hs:s<4294967296) (fs:List BP) (l:List (Nat×A)) (hfl:fs.length=l.length) (hfs:∀(i:Nat) (h:i<fs.length) (h':i<l.length),adO fs[i] l[i])
  (body:List A) (vs:List l9) (hv:Doors vs body) (hB:BOk l body) (A1 A2:Option Addr) (c1 c2:Nat) (w:World) (h1:Kd.C k78 w A1 fs.length fs) (hc1:fs.length≤c1) (h2:Kd.C ug w A2 vs.length vs) (hc2:vs.length≤c2)
  (hg:w.cell? ⟨2,0,none⟩=some (.iface 342 (.agg #[]))) (pt:l7 w) :
  Calls prog 20 #[.agg #[.int .u8 t,.int .u8 f,.int .u32 s,.slice A1 fs.length c1,.slice A2 vs.length c2]] w fun e w'=>(∃X,e=.returned (.tuple #[.string X,.nilIface])∧ahG t f s l body X)∧Below w.heap.size w w':=by
 have hmf:∀(fn:Fn) (first cap:Array Value) (w:World),(Instr.makeFunc fn first cap).run prog w=.ok (.func fn first cap) w:=fun _ _ _ _=>rfl
 have DM:=ah (fun W (hb:Below w.heap.size w W)=>RF t f s fs l hfl hB.lf hfs body vs hv hB.lb A1 A2 c1 c2 W (Kd.bQ h1 hb) hc1 (Kd.bQ h2 hb) hc2)
 have MS:=ah (fun (w0 W:World) (hw:Below w.heap.size w W) M mb A0 c (hF:Fm w0 W t f s mb M A0 body.length c (Ee l) l.length body)=>(by
  obtain⟨ok,us,hM⟩:=hB.mok ht hf (by have:=hB.lf;omega) hF (Utf8Tabs_below pt.ut hw)
  refine(ai5 hM ((hw.cell (p:=⟨2,0,none⟩) (fA w _ hg)).trans hg) (pt.below hw) hs (fun d k e=>(hB.field d _ e).wQ) (fun i hi=>(hB.bd _ (nZ hi)).fmt)).mono ?_
  rintro e w' ⟨h1,h2⟩
  rcases h1 with ⟨h1,rfl⟩|⟨h1,rfl⟩
  ·exact⟨_,rfl,.inl ⟨h1,rfl⟩,h2⟩
  ·exact⟨_,rfl,.inr ⟨h1,rfl⟩,h2⟩:Calls prog 35 #[.pointer (some ⟨M,0,none⟩)] W fun e w'=>∃X,e=.returned (.string X)∧ahG t f s l body X∧Below W.heap.size W w'))
 obtain⟨n1,hn1⟩:∃n1,fs.length=n1:=⟨_,rfl⟩
 obtain⟨n2,hn2⟩:∃n2,vs.length=n2:=⟨_,rfl⟩
 rw[hn1,hn2]at DM
 rw[hn1,hn2]
 clear h1 h2 hc1 hc2 hv hfs hfl hB pt hg hn1 hn2
 go_enter_defers func20,ntmps20
 go_wp2_with (first
  |(go_at_call 34;refine(DM.o _ (((gG _).alloc (by simp) _).alloc (by simp;omega) _)).mono ?_;rintro e w1 ⟨M,mb,A0,c,rfl,hF⟩;obtain⟨hB,k0,k1,k2⟩:=wI hF.eX;have FM:=ah hF;have HB:=ah hB;have K1:=ah k1;have K2:=ah k2;clear hB k0 k1 k2 hF)
  |(go_at_call 35;refine(MS.o _ _ HB.o _ _ _ _ FM.o).mono ?_;rintro e w3 ⟨X,rfl,hX,hb3⟩;have HB:=ah (HB.o.trans (hb3.mono HB.o.size));have k1:=(hb3.block _ (lt_of_block K1.o)).trans K1.o;have k2:=(hb3.block _ (lt_of_block K2.o)).trans K2.o;have c1:=au k1 0 (v:=.string ⟨#[]⟩) rfl;have c2:=au k2 0 (v:=.nilIface) rfl;have f1:=aI k1 0;have f2:=aI k2 0;have HX:=ah hX;clear hb3 hX))
 refine leaves_cons (f:=33) (args:=#[.pointer (some ⟨w.heap.size+1,0,none⟩),.pointer (some ⟨w.heap.size+1+1,0,none⟩)]) (by simp) (by simp[go_sem]) ?_
 refine(aiV _ _ _).mono ?_
 rintro e u' w'' ⟨rfl,rfl,rfl⟩
 have hB1:Below w.heap.size w ((w3.setCell ⟨w.heap.size+1,0,none⟩ (.string X)).setCell ⟨w.heap.size+1+1,0,none⟩ .nilIface):=(HB.o.setCell (p:=⟨w.heap.size+1,0,none⟩) (by simp) _).setCell (p:=⟨w.heap.size+1+1,0,none⟩) (by simp;omega) _
 have j1:=Joins.block_setCell k1 (i:=0) (.string X)
 have j2:=(ku w3 ⟨w.heap.size+1,0,none⟩ (.string X) (w.heap.size+1+1) (by simp)).trans k2
 have l1:=(ku (w3.setCell ⟨w.heap.size+1,0,none⟩ (.string X)) ⟨w.heap.size+1+1,0,none⟩ .nilIface (w.heap.size+1) (by simp)).trans j1
 have l2:=Joins.block_setCell j2 (i:=0) .nilIface
 generalize ((w3.setCell ⟨w.heap.size+1,0,none⟩ (.string X)).setCell ⟨w.heap.size+1+1,0,none⟩ .nilIface)=w4 at *
 have m1:w4.cell? ⟨w.heap.size+1,0,none⟩=some (.string X):=au l1 0 rfl
 have m2:w4.cell? ⟨w.heap.size+1+1,0,none⟩=some .nilIface:=au l2 0 rfl
 simp[Leaves,settle,results,results20,go_sem,m1,m2,hB1,HX.o]
theorem adu (x:dS) (a:A) (hi:uS (Qw x) a) (hg:a.dN.f_) (hf:a.wQ) (hl:a.tl≤10000000) (hn:kZ x≤1000000) (A0:Option Addr) (c:Nat) (w:World) (hc:Kd.C qx w A0 x.f3.length x.f3) (hcc:x.f3.length≤c) (pt:l7 w) :
  fC 9 #[.agg #[.int .u8 x.f0,.int .u64 x.f1,.string x.f2,.slice A0 x.f3.length c]] w (.tuple #[.string (bs a.str),.bool true]):=by
 obtain⟨k,hk⟩:=Ho _ x bW hn
 have VI:=ah (fun W (hb:Below w.heap.size w W)=>aZ.calls k x.f0 x.f1 x.f2 A0 c x.f3 _ _ _ _ W (Kd.bQ hc hb) hcc hk)
 have DS:=ah (fun A3 c3 W h1 h2 h3=>RG a (Qw x) hi hg hf hl A3 c3 W h1 h2 h3)
 rw[tY]at DS
 have PT:=ah pt
 clear hk hc pt hi
 go_enter func9,ntmps9
 go_wp2_with (first
  |(go_at_call 19;refine(VI.o _ (gG _)).mono ?_;rintro e w1 ⟨v,rfl,hR,hb1⟩;obtain⟨A1,c1,rfl,hl1,hC1⟩:=Kd.rX hR;have ⟨hB,kr,hlt⟩:=dP hb1;have HB:=ah hB;have HC:=ah hC1;clear hR hb1 hB kr hlt hC1)
  |(go_at_call 18;refine(DS.o A1 c1 _ HC.o hl1 (PT.o.below HB.o)).mono ?_;rintro e w2 ⟨rfl,hb2⟩;have HB:=ah (HB.o.trans (hb2.mono HB.o.size));clear hb2))
 go_region
 go_wp2
 go_ret2
 exact⟨rfl,HB.o.drew⟩
theorem ai4 (t f s:Nat) (ht:t<256) (hf:f<256) (hs:s<4294967296) (fs:List jB) (l:List (Nat×A)) (hfl:fs.length=l.length) (hfs:∀(i:Nat) (h:i<fs.length) (h':i<l.length),adO (RX fs[i]) l[i])
  (body:List A) (vs:List dS) (hv:Doors (jw vs) body) (hB:BOk l body) (hcb:eu vs≤1000000) (hcf:∀(i:Nat) (h:i<fs.length),kZ (fs[i]).f1≤1000000)
  (A1 A2:Option Addr) (c1 c2:Nat) (w:World) (h1:Kd.C wG w A1 fs.length fs) (hc1:fs.length≤c1) (h2:Kd.C qx w A2 vs.length vs) (hc2:vs.length≤c2)
  (hg:w.cell? ⟨2,0,none⟩=some (.iface 342 (.agg #[]))) (pt:l7 w) :
  Calls prog 10 #[.agg #[.int .u8 t,.int .u8 f,.int .u32 s,.slice A1 fs.length c1,.slice A2 vs.length c2]] w fun e w'=>(∃X,e=.returned (.tuple #[.string X,.bool true])∧ahG t f s l body X)∧Below w.heap.size w w':=by
 obtain⟨k,hk⟩:=acv t f s fs vs hcb (by have:=hB.lf;omega) hcf
 have MI:=ah (fun W (hb:Below w.heap.size w W)=>dB.calls k t f s A1 c1 fs A2 c2 vs _ _ _ _ _ W (Kd.bQ h1 hb) hc1 (Kd.bQ h2 hb) hc2 hk)
 have hml:(fs.map RX).length=l.length:=by rw[List.length_map];exact hfl
 have DT:=ah (fun (W:World) (hb:Below w.heap.size w W) A1 A2 c1 c2 q1 q2 q3 q4=>aaJ t f s ht hf hs (fs.map RX) l hml (fun i h h'=>by rw[List.getElem_map];exact hfs i (by simpa using h) h') body (jw vs) hv hB A1 A2 c1 c2 W q1 q2 q3 q4 ((hb.cell (p:=⟨2,0,none⟩) (fA w _ hg)).trans hg) (pt.below hb))
 obtain⟨n1,hn1⟩:∃n1,fs.length=n1:=⟨_,rfl⟩
 obtain⟨n2,hn2⟩:∃n2,vs.length=n2:=⟨_,rfl⟩
 rw[hn1,hn2]at MI
 rw[hn1,hn2]
 obtain⟨gs,hgs⟩:∃gs,fs.map RX=gs:=⟨_,rfl⟩
 obtain⟨us,hus⟩:∃us,jw vs=us:=⟨_,rfl⟩
 rw[hgs,hus]at MI DT
 clear hgs hus hml
 clear h1 h2 hc1 hc2 hv hfs hfl hB pt hg hn1 hn2 hk hcb hcf
 go_enter func10,ntmps10
 go_wp2_with (first
  |(go_at_call 21;refine(MI.o _ (gG _)).mono ?_;rintro e w1 ⟨v3,v4,rfl,hR3,hR4,hb1⟩;obtain⟨A3,c3,rfl,hl3,hC3⟩:=Kd.rX hR3;obtain⟨A4,c4,rfl,hl4,hC4⟩:=Kd.rX hR4;have ⟨hB,kr,hlt⟩:=dP hb1;have HB:=ah hB;have HC3:=ah hC3;have HC4:=ah hC4;clear hR3 hR4 hb1 hB kr hlt hC3 hC4)
  |(go_at_call 20;refine(DT.o _ HB.o A3 A4 c3 c4 HC3.o hl3 HC4.o hl4).mono ?_;rintro e w2 ⟨⟨X,rfl,hX⟩,hb2⟩;have HX:=ah hX;have HB:=ah (HB.o.trans (hb2.mono HB.o.size));clear hb2 hX))
 go_region
 go_wp2
 go_ret2
 exact⟨⟨_,rfl,HX.o⟩,HB.o.drew⟩
end Go.Proofs.YtllcccekodcdmaaGreatDoor.Ms
namespace Go.Proofs.YtllcccekodcdmaaGreatDoor.Ms
open Go Go.RowKit Go.Proofs.ak.aT Go.Proofs.YtllcccekodcdmaaGreatDoor.bK
structure FT (x:dS) (a:A):Prop where
 tree:Tree x a
 ok:ZB a
 door:uS (Qw x) a
 td:Td x
 kZ:kZ x≤400
 jv:jv x≤65536
 rn:0≤x.f1∧x.f1<18446744073709551616
theorem ada (l:List dS) (hw:oC l) (hr:ZE l) (j:Nat) (h:j<l.length):∃a,Tree l[j] a:=by
 obtain⟨⟨⟨h1,h2⟩,⟨h3,-⟩,h4⟩,h5⟩:=hw
 have hm:=nZ h
 have c1:=Ky l _ hm
 have c2:=Ey l _ hm
 obtain⟨t1,t2,t3⟩:=h3 j h
 exact agt _ _ bW t3 (h4 j h) (zH l hr _ hm) t1 t2.1 (by omega) (by omega)
theorem U_ (l:List dS) (hw:oC l) (hr:ZE l) (j:Nat) (h:j<l.length) (a:A) (ht:Tree l[j] a):FT l[j] a:=by
 obtain⟨⟨⟨h1,h2⟩,⟨h3,-⟩,h4⟩,h5⟩:=hw
 have hm:=nZ h
 have c1:=Ky l _ hm
 have c2:=Ey l _ hm
 obtain⟨t1,t2,t3⟩:=h3 j h
 obtain⟨ts,w1,w2,w3⟩:=t2.2.1
 have e1:=D8 a.dN ts ht.Dz w1 (by rw[←w3,ht.sig])
 rw[e1]at w2
 have hf:a.dN.fits 0 0 0:=w2.1
 have q1:=ht.tl
 have q2:=ht.ec
 have q3:=ht.dep
 have q4:=h5 j h
 exact⟨ht,⟨Ae _ ht.wf hf (by rw[ht.sig];exact t2.1),ht.wQ hf,ht.eok,by omega,by omega,by omega⟩,ht.door hf,t3,by omega,by omega,(zH l hr _ hm).own⟩
theorem aei (l:List dS) (hw:oC l) (hr:ZE l):∃us:List A,us.length=l.length∧(∀(i:Nat) (h:i<l.length) (h':i<us.length),FT l[i] us[i])∧A.qM us≤10000000:=by
 obtain⟨us,hus⟩:=BI l (ada l hw hr)
 obtain⟨-,-,-,-,-,f6,-⟩:=hus.facts
 have h1:=hw.1.1
 exact⟨us,hus.len,fun i h h'=>U_ l hw hr i h _ (hus.at i h h'),by omega⟩
theorem Ji:∀(fs:List jB),(∀y∈fs,oC [y.f1])→(∀y∈fs,Rn y.f1)→∃l:List (Nat×A),fs.length=l.length∧∀(i:Nat) (h:i<fs.length) (h':i<l.length),(l[i]).1=(fs[i]).f0.toNat∧FT (fs[i]).f1 (l[i]).2
 |[],_,_=>⟨[],rfl,fun i h=>by simp at h⟩
 |y::fs,hw,hr=>by
  obtain⟨l,h1,h2⟩:=Ji fs (fun z hz=>hw z (by simp[hz])) (fun z hz=>hr z (by simp[hz]))
  have hy:=hw y (by simp)
  have hry:ZE [y.f1]:=⟨hr y (by simp),trivial⟩
  obtain⟨a,ha⟩:=ada [y.f1] hy hry 0 (by simp)
  refine⟨(y.f0.toNat,a)::l,by simp[h1],fun i h h'=>?_⟩
  cases i with
  |zero=>exact⟨rfl,U_ [y.f1] hy hry 0 (by simp) a ha⟩
  |succ i=>exact h2 i (by simpa using h) (by simpa using h')
theorem Zx (x y:jB) (l:List jB) (h:y∈o_ x l):y=x∨(y∈l∧y.f0≠x.f0):=by
 simp only[o_,List.mem_append,List.mem_filter,List.mem_singleton,decide_eq_true_eq]at h
 rcases h with (h|h)|h
 ·exact .inr ⟨h.1,by omega⟩
 ·exact .inl h
 ·exact .inr ⟨h.1,by omega⟩
theorem zW (c:Int):∀(a b:List jB),findF c (a++b)=match findF c a with|some v=>some v|none=>findF c b
 |[],b=>rfl
 |x::a,b=>by
  simp only[lF,findF]
  split
  ·rfl
  ·exact zW c a b
theorem qI (c:Int) (p:jB→Bool) (hp:∀y:jB,y.f0=c→p y=true):∀l:List jB,findF c (l.filter p)=findF c l
 |[]=>rfl
 |x::l=>by
  by_cases hx:p x=true
  ·rw[List.filter_cons_of_pos hx];simp only[findF,qI c p hp l]
  ·rw[List.filter_cons_of_neg hx]
   have:x.f0≠c:=fun e=>hx (hp x e)
   simp only[findF,if_neg this,qI c p hp l]
theorem uD (c:Int) (p:jB→Bool) (hp:∀y:jB,y.f0=c→p y=false):∀l:List jB,findF c (l.filter p)=none
 |[]=>rfl
 |x::l=>by
  by_cases hx:p x=true
  ·rw[List.filter_cons_of_pos hx]
   have:x.f0≠c:=fun e=>by have:=hp x e;rw[hx]at this;cases this
   simp only[findF,if_neg this,uD c p hp l]
  ·rw[List.filter_cons_of_neg hx];exact uD c p hp l
theorem DW (c:Int) (x:jB) (l:List jB):findF c (o_ x l)=if x.f0=c then some x.f1 else findF c l:=by
 simp only[o_,zW]
 by_cases h:x.f0=c
 ·rw[if_pos h,uD c _ (fun y hy=>by simp;omega)]
  simp only[findF,if_pos h]
 ·rw[if_neg h]
  by_cases h2:c<x.f0
  ·rw[qI c (fun y=>decide (y.f0<x.f0)) (fun y hy=>by simp;omega),uD c (fun y=>decide (x.f0<y.f0)) (fun y hy=>by simp;omega)]
   simp only[findF,if_neg h]
   cases findF c l<;>rfl
  ·rw[uD c (fun y=>decide (y.f0<x.f0)) (fun y hy=>by simp;omega),qI c (fun y=>decide (x.f0<y.f0)) (fun y hy=>by simp;omega)]
   simp only[findF,if_neg h]
theorem Y1 (fs:List jB):∀n,n≤fs.length→∀y∈dF (fs.take n),y∈fs∧findF y.f0 (dF (fs.take n))=some y.f1:=by
 intro n
 induction n with
 |zero=>intro _ y hy;simp[dF]at hy
 |succ n ih =>
  intro hn y hy
  have hlt:n<fs.length:=by omega
  rw[lu hlt,vN]at hy ⊢
  rw[DW]
  rcases Zx _ _ _ hy with rfl|⟨h1,h2⟩
  ·exact⟨nZ hlt,by rw[if_pos rfl]⟩
  ·obtain⟨h3,h4⟩:=ih (by omega) y h1
   exact⟨h3,by rw[if_neg (fun e=>h2 e.symm)];exact h4⟩
theorem vO (fs:List jB) (y:jB) (hy:y∈dF fs):y∈fs∧findF y.f0 (dF fs)=some y.f1:=by
 have:=Y1 fs fs.length bW y
 rw[List.take_length]at this
 exact this hy
def Rel:Option dS→Option A→Prop
 |some x,some a=>FT x a
 |none,none=>True
 | _,_=>False
theorem acI (fs:List jB) (l:List (Nat×A)) (hl:fs.length=l.length) (h:∀(i:Nat) (h:i<fs.length) (h':i<l.length),(l[i]).1=(fs[i]).f0.toNat∧FT (fs[i]).f1 (l[i]).2) (hc:∀y∈fs,0≤y.f0) (c:Nat) :
  ∀n,n≤fs.length→Rel (findF (c:Int) (dF (fs.take n))) (Ee (l.take n) c):=by
 intro n
 induction n with
 |zero=>intro _;exact trivial
 |succ n ih =>
  intro hn
  have h1:n<fs.length:=by omega
  have h2:n<l.length:=by omega
  rw[lu h1,lu h2,vN,Ob,DW]
  obtain⟨e1,e2⟩:=h n h1 h2
  have h0:=hc _ (nZ h1)
  unfold Ib
  by_cases e:(fs[n]).f0=(c:Int)
  ·rw[if_pos e,if_pos (by rw[e1];omega)];exact e2
  ·rw[if_neg e,if_neg (by rw[e1];omega)];exact ih (by omega)
theorem T.amR (t:T):t.ty≠[]:=by cases t<;>simp[T.ty]
theorem adg (a:A) (q:UInt8) (h:a.dN.ty=[q]) (hq:q≠118):∃y,a=.sc y∧y.code=q:=by
 cases a with
 |sc y=>exact⟨y,rfl,by simpa[A.dN,T.ty]using h⟩
 |var t a=>simp[A.dN,T.ty]at h;exact absurd h.symm hq
 |jJ l=>simp[A.dN,T.ty]at h
 |list t l =>
  simp only[A.dN,T.ty,List.cons.injEq]at h
  exact absurd h.2 (T.amR t)
 |dict k t ks es=>simp[A.dN,T.ty]at h
theorem FT.sc {x:dS} {a:A} (h:FT x a) (hk:oI x.f0):a=.sc (oL x)∧(((oL x).code.toNat:Nat):Int)=x.f0:=by
 rcases h.tree.leaf with ⟨-,e⟩|⟨h1,-⟩
 ·have h2:=h.jv
  rw[jF]at h2
  exact⟨e,(Bj x hk h.rn (by omega) h.td).1⟩
 ·exfalso
  unfold oI at hk
  omega
theorem FT.kind {x:dS} {a:A} (h:FT x a) (q:UInt8) (hq:q=111∨q=115∨q=117∨q=103):x.f0=(q.toNat:Nat)↔a.dN.ty=[q]:=by
 constructor
 ·intro e
  have hk:oI x.f0:=by
   rw[e]
   rcases hq with rfl|rfl|rfl|rfl<;>simp[oI]
  obtain⟨rfl,h2⟩:=h.sc hk
  have:(oL x).code=q:=UInt8.toNat_inj.1 (by omega)
  simp[A.dN,T.ty,this]
 ·intro e
  obtain⟨y,rfl,hy⟩:=adg a q e (by rcases hq with rfl|rfl|rfl|rfl<;>decide)
  rcases h.tree.leaf with ⟨hk,e2⟩|⟨-,h2⟩
  ·obtain⟨e3,e4⟩:=h.sc hk
   cases e2
   rw[←e4,hy]
  ·exact absurd rfl (h2 y)
theorem Dh (c:Nat) (h1:1≤c) (h9:c≤9):sN (c:Int)=((uz c).toNat:Nat)∧(uz c=111∨uz c=115∨uz c=117∨uz c=103):=by
 rcases nine h1 h9 with rfl|rfl|rfl|rfl|rfl|rfl|rfl|rfl|rfl<;>exact⟨rfl,by decide⟩
theorem Ti (c:Int) (h:sN c≠0):1≤c∧c≤9:=by
 unfold sN at h
 (repeat' split at h)<;>first|omega|exact absurd rfl h
theorem Y2 (t f n:Nat) (F:List jB) (H:Nat→Option A) (hc:∀y∈F,(0≤y.f0∧y.f0<256)∧findF y.f0 F=some y.f1) (hr:∀c:Nat,Rel (findF (c:Int) F) (H c)):tV t f F n=true↔yE t f H n:=by
 have look:∀(c:Nat) (a:A),H c=some a→∃y∈F,y.f0=(c:Int)∧FT y.f1 a:=fun c a h=>by
  have h1:=hr c
  rw[h]at h1
  cases hx:findF (c:Int) F with
  |none=>rw[hx]at h1;exact h1.elim
  |some x =>
   rw[hx]at h1
   obtain⟨y,hy,e1,e2⟩:=xH _ _ _ hx
   exact⟨y,hy,e1,by rw[e2];exact h1⟩
 have text:∀(x:dS) (a:A) (s:bG),FT x a→a=.sc (.s s)∨a=.sc (.o s)→x.f2=s:=fun x a s h e=>by
  rcases h.tree.leaf with ⟨hk,e2⟩|⟨-,h2⟩
  ·have h3:=h.jv
   rw[jF]at h3
   have h4:=(Bj x hk h.rn (by omega) h.td).2.1
   subst e2
   rcases e with e|e<;>(injection e with e;rw[e]at h4;exact h4.symm)
  ·rcases e with e|e
   ·exact absurd e (h2 _)
   ·exact absurd e (h2 _)
 have isn:∀c:Nat,(findF (c:Int) F).isSome=true↔H c≠none:=fun c=>by
  have h1:=hr c
  cases hx:findF (c:Int) F<;>cases hy:H c<;>rw[hx,hy]at h1<;>simp[Rel]at h1 ⊢
 simp only[tV,vY,Bool.and_eq_true,Bool.or_eq_true,decide_eq_true_eq,List.all_eq_true]
 constructor
 ·rintro⟨⟨⟨h1,h2,h3⟩,h4,h5⟩,h6⟩
  have fb:∀y∈F,sN y.f0≠0∧sN y.f0=y.f1.f0∧Ad y.f0 y.f1.f2=true:=fun y hy=>by
   have:=h4 y hy
   simpa[qw]using this
  have tx:∀(c:Nat) (g:List UInt8→Bool),(∀s:bG,Ad (c:Int) s=g s.data.toList)→NY H c g:=fun c g hg a s ha e=>by
   obtain⟨y,hy,e1,e2⟩:=look c a ha
   have h7:=(fb y hy).2.2
   rw[e1,hg,text _ _ _ e2 e]at h7
   exact h7
  refine⟨h3,⟨h1,h2⟩,fun c a hc2 ha=>?_,fun c hcn=>(isn c).1 (h5 c hcn),tx 1 _ (fun s=>rfl),tx 2 _ (fun s=>rfl),tx 3 _ (fun s=>rfl),tx 4 _ (fun s=>rfl),fun hn=>(isn 8).1 (h6.resolve_right hn)⟩
  obtain⟨y,hy,e1,e2⟩:=look c a ha
  obtain⟨g1,g2,-⟩:=fb y hy
  rw[e1]at g1 g2
  have h7:=Ti _ g1
  obtain⟨k1,k2⟩:=Dh c (by omega) (by omega)
  exact⟨by omega,by omega,(e2.kind _ k2).1 (by rw[←g2,k1])⟩
 ·intro h
  refine⟨⟨⟨h.type.1,h.type.2,h.flags⟩,fun y hy=>?_,fun c hcn=>(isn c).2 (h.iC c hcn)⟩,?_⟩
  ·obtain⟨⟨c1,c2⟩,c3⟩:=hc y hy
   obtain⟨c,hcc⟩:∃c:Nat,y.f0=(c:Int):=⟨y.f0.toNat,by omega⟩
   rw[hcc]at c3
   have h1:=hr c
   rw[c3]at h1
   cases ha:H c with
   |none=>rw[ha]at h1;exact h1.elim
   |some a =>
    rw[ha]at h1
    obtain⟨g1,g2,g3⟩:=h.kinds c a (by omega) ha
    obtain⟨k1,k2⟩:=Dh c g1 g2
    have k3:=(FT.kind h1 _ k2).2 g3
    obtain⟨sc,e1,e2⟩:=adg a _ g3 (by rcases k2 with e|e|e|e<;>rw[e]<;>decide)
    have gd:Ad (c:Int) y.f1.f2=true:=by
     have tt:∀(d:Nat) (g:List UInt8→Bool),c=d→(uz d=111∨uz d=115)→NY H d g→g y.f1.f2.data.toList=true:=fun d g e hd hx=>by
      subst e
      have:∃s,a=.sc (.s s)∨a=.sc (.o s):=by
       subst e1
       rcases hd with hd|hd<;>rw[hd]at e2<;>cases sc<;>simp[Sc.code]at e2 ⊢
      obtain⟨s,hs⟩:=this
      rw[text _ _ _ h1 hs]
      exact hx a s ha hs
     by_cases d1:c=1
     ·have:=tt 1 _ d1 (.inl rfl) h.path
      subst d1;exact this
     by_cases d2:c=2
     ·have:=tt 2 _ d2 (.inr rfl) h.iface
      subst d2;exact this
     by_cases d3:c=3
     ·have:=tt 3 _ d3 (.inr rfl) h.aml
      subst d3;exact this
     by_cases d4:c=4
     ·have:=tt 4 _ d4 (.inr rfl) h.err
      subst d4;exact this
     unfold Ad
     rw[if_neg (by omega),if_neg (by omega),if_neg (by omega),if_neg (by omega)]
    simp only[qw,Bool.and_eq_true,decide_eq_true_eq,hcc]
    exact⟨by rw[k1];rcases k2 with e|e|e|e<;>rw[e]<;>decide,by rw[k1,k3],gd⟩
  ·by_cases hn:n=0
   ·exact .inr hn
   ·exact .inl ((isn 8).2 (h.sig hn))
end Go.Proofs.YtllcccekodcdmaaGreatDoor.Ms
