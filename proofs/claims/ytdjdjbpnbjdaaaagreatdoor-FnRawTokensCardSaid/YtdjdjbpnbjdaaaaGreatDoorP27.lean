/- Part of the proof that laws.FnRawTokens returns true for every argument. No conditions. -/
import Derived.Test.YtdjdjbpnbjdaaaaGreatDoorP26
import Derived.Test.YtdjdjbpnbjdaaaaGreatDoorP01
import Derived.Test.YtdjdjbpnbjdaaaaGreatDoorP24
set_option linter.all false
set_option maxHeartbeats 8000000
set_option maxRecDepth 100000
namespace Go.Proofs.YtdjdjbpnbjdaaaaGreatDoor
open Go Go.RowKit Tryz
abbrev q8 (o:cU) (au:Value):Array Value:=#[.bool o.raw,.bool (!o.strict),.slice none 0 0,au,aB o.space]
structure J0 (x:Cx) (c:DC) (w:World) (v:DV) (s:St) (m:Nat) (sb fb:List Nat) (n:Nat) (b0:Nat) (l:List (aP×St)) (xs:List Value) (tv au:Value):Prop where
 ts:TS x c w v s m sb fb n
 opt:aJ w b0 (q8 x.o au) 32
 b0f:JZ x v c.nextTok m sb fb w b0
 tvb:tv.ownBlock≠some b0
 row:w.ownsRow b0 55 8 tv l.length xs
 tvf:∀ k,tv.ownBlock=some k→JZ x v c.nextTok m sb fb w k
 rows:cS (qZ w b0 (fun k=>JZ x v c.nextTok m sb fb w k∧tv.ownBlock≠some k) x.T) l xs
 run:∀ l' e,o8 cG x.o s l' e→o8 cG x.o (St.init x.T) (l++l') e
 next:x.o.raw=true→s.next=none
 mu:l.length+s.mu2≤(St.init x.T).mu2
def a1r (x:Cx) (au:Value) (m:Nat) (b0:Nat) (k:Nat) (a:Act) (w:World):Prop:=
 ∃ f c v s sb fb n l xs tv,a=fr 45 f [(7,.pointer (some ⟨b0,0,none⟩)),(10,bS x),(11,tv)]∧J0 x c w v s m sb fb n b0 l xs tv au∧k=s.mu2
def V0 (T:Bs) (o:cU) (w:World) (en:Ending) (w':World):Prop:=
 ∃ l e tv xs,en=.returned (.tuple #[tv,.int .i64 (EK.code e)])∧o8 cG o (St.init T) l e∧Below w.heap.size w w'∧w'.ownsRow w.heap.size 55 8 tv l.length xs∧cS (qZ w' w.heap.size (fun _=>True) T) l xs∧l.length≤8*T.length
theorem J0.step {x:Cx} (hx:x.Ok) {au:Value} {c:DC} {w:World} {v:DV} {s:St} {m:Nat} {sb fb:List Nat} {n:Nat} {b0:Nat} {l:List (aP×St)} {xs:List Value} {tv:Value} (h:J0 x c w v s m sb fb n b0 l xs tv au) {tk:aP} {s':St} (uR:l8 cG x.o s=.ok (tk,s'))
  {c':DC} {w':World} {v':DV} {sb' fb':List Nat} {n':Nat} (B9:TS x c' w' v' s' m sb' fb' n') (hm:aK (fun b=>x.S1 v b∨b∈m::(sb++fb)∨dG c.nextTok b) w w') (h1:∀ b∈m::(sb'++fb'),b∈m::(sb++fb)∨w.heap.size≤b) (h2:∀ b,x.S1 v' b→x.S1 v b∨w.heap.size≤b) (h3:∀ g,dG c'.nextTok g→dG c.nextTok g∨w.heap.size≤g) :
  aJ w' b0 (q8 x.o au) 32∧JZ x v' c'.nextTok m sb' fb' w' b0∧w'.ownsRow b0 55 8 tv l.length xs∧(∀ k,tv.ownBlock=some k→JZ x v' c'.nextTok m sb' fb' w' k)∧cS (qZ w' b0 (fun k=>JZ x v' c'.nextTok m sb' fb' w' k∧tv.ownBlock≠some k) x.T) l xs ∧
   (∀ l' e,o8 cG x.o s' l' e→o8 cG x.o (St.init x.T) (l++(tk,s')::l') e)∧(x.o.raw=true→s'.next=none)∧l.length+1+s'.mu2≤(St.init x.T).mu2∧s'.mu2<s.mu2:=by
 obtain ⟨q1,q2,q3⟩:=Bw uR
 have KP:∀ k,JZ x v c.nextTok m sb fb w k→¬ (x.S1 v k∨k∈m::(sb++fb)∨dG c.nextTok k):=fun k hf hh=>by
  rcases hh with hh|hh|hh
  ·exact hf.s1 hh
  ·exact hf.own hh
  ·exact hf.pend hh
 refine ⟨h.opt.mod hm (KP _ h.b0f),h.b0f.step hm.size h1 h2 h3,aG h.row hm (fun k hk=>KP k (h.tvf k hk)),fun k hk=>(h.tvf k hk).step hm.size h1 h2 h3,
  h.rows.mono (fun a ys hr=>hr.mod hm (fun k hk _=>⟨KP k hk.1,hk.1.step hm.size h1 h2 h3,hk.2⟩)),fun l' e ht=>?_,fun hr=>(q3 hr).trans (h.next hr),by have:=h.mu;omega,q1⟩
 exact h.run _ e (.more uR ht)
theorem J0.lay {x:Cx} {au:Value} {c:DC} {v:DV} {s:St} {m:Nat} {sb fb:List Nat} {n:Nat} {b0:Nat} {l:List (aP×St)} {xs:List Value} {tv:Value} {w2 w3 w4:World} {tk:aP}
  (hB:x.B≤b0) (B9:TS x c w2 v s m sb fb n) (a4a:aJ w2 b0 (q8 x.o au) 32) (T4:JZ x v c.nextTok m sb fb w2 b0) (a1s:tv.ownBlock≠some b0) (l7:w2.ownsRow b0 55 8 tv l.length xs) (By:∀ k,tv.ownBlock=some k→JZ x v c.nextTok m sb fb w2 k)
  (kW:cS (qZ w2 b0 (fun k=>JZ x v c.nextTok m sb fb w2 k∧tv.ownBlock≠some k) x.T) l xs) (gA:∀ l' e,o8 cG x.o s l' e→o8 cG x.o (St.init x.T) (l++(tk,s)::l') e) (SJ:x.o.raw=true→s.next=none) (hmu:l.length+1+s.mu2≤(St.init x.T).mu2)
  (l9:Below w2.heap.size w2 w3) {sa:Option Addr} {sl sc:Nat} {i6 i7:Int} (qG:w3.ownsRow w2.heap.size 63 3 (.slice sa sl sc) (tk.itok (x.T.take (x.T.length-s.rest.length))).attrs.length (aN (tk.itok (x.T.take (x.T.length-s.rest.length))).attrs))
  {o:Obj} {tv':Value} (eC:w4.ownsRow b0 55 8 tv' (l.length+1) (xs++nA (tk.itok (x.T.take (x.T.length-s.rest.length))).kind (tk.itok (x.T.take (x.T.length-s.rest.length))).space (tk.itok (x.T.take (x.T.length-s.rest.length))).loc (.slice sa sl sc) (tk.itok (x.T.take (x.T.length-s.rest.length))).text (tk.itok (x.T.take (x.T.length-s.rest.length))).at' i6 i7))
  (xI:(w3.alloc o).grownBy w4 tv.ownBlock) (rK:tv'.ownBlock=tv.ownBlock∨tv'.ownBlock=some (w3.heap.size+1)) (hi:i6=((tk.itok (x.T.take (x.T.length-s.rest.length))).line:Nat)∧i7=((tk.itok (x.T.take (x.T.length-s.rest.length))).col:Nat)) :
  J0 x c w4 v s m sb fb n b0 (l++[(tk,s)]) (xs++nA (tk.itok (x.T.take (x.T.length-s.rest.length))).kind (tk.itok (x.T.take (x.T.length-s.rest.length))).space (tk.itok (x.T.take (x.T.length-s.rest.length))).loc (.slice sa sl sc) (tk.itok (x.T.take (x.T.length-s.rest.length))).text (tk.itok (x.T.take (x.T.length-s.rest.length))).at' i6 i7) tv' au:=by
 have cD:aK (fun _=>False) w2 w3:=aH l9 _
 have l5:aK (fun k=>tv.ownBlock=some k) w3 w4:=(aH ((Below.refl _ w3).alloc (Nat.le_refl _) o) _).trans (S':=fun k=>tv.ownBlock=some k) ⟨xI.os,xI.tape,xI.output,xI.size,fun k hk hn=>xI.block k hk (fun he=>hn he.symm)⟩ (fun i _ hi=>hi)
 have V1:aK (fun k=>tv.ownBlock=some k) w2 w4:=(cD.mono (fun _ _ h=>h.elim)).trans l5 (fun _ _ h=>h)
 have KN:=l9.size
 have Sm:=l5.size
 have hnz:w3.heap.size+1≤w4.heap.size:=by have h9:=xI.size;rw [show (w3.alloc o).heap.size=w3.heap.size+1 from Array.size_push _] at h9;exact h9
 have W9:∀ k,tv.ownBlock=some k→b0≤k:=fun k hk=>(aV l7 hk).2
 have a4b:=B9.mod V1 (fun k hk=>⟨(By k hk).s1,(By k hk).own,Nat.le_trans hB (W9 k hk),(By k hk).pend⟩)
 have a4c:∀ k,tv'.ownBlock=some k→k<w4.heap.size:=fun k hk=>(aV eC hk).1
 have cB:∀ k,k<w3.heap.size→tv.ownBlock≠some k→tv'.ownBlock≠some k:=fun k hk hn he=>by
  rcases rK with rK|rK
  ·exact hn (rK▸he)
  ·rw [rK] at he
   have:w3.heap.size+1=k:=by simpa using he
   omega
 refine ⟨a4b,a4a.mod V1 a1s,T4.same V1.size,cB b0 (Nat.lt_of_lt_of_le T4.lt KN) a1s,by rw [List.length_append];exact eC,fun k hk=>?_,?_,fun l' e ht=>?_,SJ,by rw [List.length_append];exact hmu⟩
 ·rcases rK with rK|rK
  ·exact (By k (rK▸hk)).same V1.size
  ·have h9:w3.heap.size+1=k:=by rw [rK] at hk;simpa using hk
   exact B9.new (by omega) (a4c k hk)
 ·refine .snoc (kW.mono (fun a ys hr=>hr.mod V1 (fun k hk bB=>⟨hk.2,hk.1.same V1.size,cB k (Nat.lt_of_lt_of_le bB KN) hk.2⟩))) ?_
  have KQ:∀ k,(Value.slice sa sl sc).ownBlock=some k→k<w3.heap.size∧w2.heap.size≤k:=fun k hk=>aV qG hk
  have Uy:w3.ownsRow b0 63 3 (.slice sa sl sc) (tk.itok (x.T.take (x.T.length-s.rest.length))).attrs.length (aN (tk.itok (x.T.take (x.T.length-s.rest.length))).attrs):=by
   refine ⟨qG.1,?_⟩
   rcases qG.2 with h9|⟨g,cap,cur,e1,e2,e3⟩
   ·exact Or.inl h9
   ·exact Or.inr ⟨g,cap,cur,e1,Nat.le_trans (Nat.le_of_lt T4.lt) e2,e3⟩
  have JX:∀ k,(Value.slice sa sl sc).ownBlock=some k→tv.ownBlock≠some k:=fun k hk he=>by
   have h8:=(KQ k hk).2
   have h9:=(By k he).lt
   omega
  exact ⟨sa,sl,sc,i6,i7,rfl,aG Uy l5 (fun k hk he=>JX k hk he),fun k hk=>⟨B9.new (KQ k hk).2 (Nat.lt_of_lt_of_le (KQ k hk).1 Sm),cB k (KQ k hk).1 (JX k hk)⟩,hi⟩
 ·rw [List.append_assoc];exact gA l' e ht
noncomputable def J1 (n:Nat):Code:=((Tryz.f5.body).bind (Code.partAt n)).getD .skip
theorem NG {T rest:Bs} (h:rest <:+ T):T=T.take (T.length-rest.length)++rest:=by
 obtain ⟨p,rfl⟩:=h
 have:(p++rest).length-rest.length=p.length:=by rw [List.length_append];omega
 rw [this,List.take_left' rfl]
theorem bX.line_col {x:Cx} {c:DC} {w:World} {v:DV} {rest:Bs} {e:Option EK} {buf:Bs} (hR:bX x c w v rest e buf) (lC:v.nb≠10) (tk:aP) {pre:Bs} (gM:x.T=pre++rest) :
  v.line=((tk.itok pre).line:Nat)∧v.off-v.lstart+1=((tk.itok pre).col:Nat):=by
 obtain ⟨p,hT,ho,hl,hs,_⟩:=hR.pos
 have hp:p=pre:=List.append_cancel_right (by rw [←hT,←gM])
 subst hp
 have h1:=hs lC
 cases tk<;>exact ⟨hl,by show _=((AK p:Nat):Int);omega⟩
structure Bz (x:Cx) (au:Value) (m b0:Nat) (s:St) (l:List (aP×St)) (xs:List Value) (Q:Exit→Act→World→Prop):Prop where
 on:∀ f c w v s' sb fb n l' xs' tv',J0 x c w v s' m sb fb n b0 l' xs' tv' au→s'.mu2<s.mu2→Q .normal (fr 45 f [(7,.pointer (some ⟨b0,0,none⟩)),(10,bS x),(11,tv')]) w
 err:∀ f w tv k,o8 cG x.o (St.init x.T) l k→Below x.B x.W0 w→w.ownsRow b0 55 8 tv l.length xs→cS (qZ w b0 (fun _=>True) x.T) l xs→Q .ret (fr 45 f [(8,tv),(9,.int .i64 (EK.code k))]) w
theorem Ca (x:Cx) (hx:x.All) (VX:∃ cs t,aJ x.W0 x.eofA.block cs t) (het:x.W0.cell? ⟨1,0,none⟩=some (KR 49)) (a1t:1<x.B)
  (au:Value) (m b0:Nat) (s:St) (l:List (aP×St)) (xs:List Value) (tv:Value) (k:EK) (gA:o8 cG x.o (St.init x.T) l k) (w:World) (l7:w.ownsRow b0 55 8 tv l.length xs) (kW:cS (qZ w b0 (fun _=>True) x.T) l xs)
  (t e:Value) (he:BP x e (some k)) (hb:Below x.B x.W0 w) (ho:kU w e k) (Q:Exit→Act→World→Prop) (hQ:Bz x au m b0 s l xs Q) (f:Nat→Value) :
  (J1 8).wp prog Q (fr 45 f [(7,.pointer (some ⟨b0,0,none⟩)),(10,bS x),(11,tv),(12,t),(13,e)]) w:=by
 have ZT:=Lh (Uv x hx.toOk VX het a1t hb he ho)
 obtain ⟨t1,u1,rfl⟩:=he.iface
 have HQ:=Lh hQ
 have a4d:=Lh gA
 have qY:=Lh l7
 have BD:=Lh kW
 have HB:=Lh hb
 clear hx VX het a1t gA l7 kW he hb ho hQ
 conv=>arg 2;unfold J1;whnf
 (refine vg ?_;(repeat with_reducible intro K hK))
 refine ZT.out.mono ?_
 rintro e2 w2 ⟨rfl,dJ⟩
 have nK:=Lh dJ
 clear dJ ZT
 ((repeat revert K);refine vS ?_;intro K hK)
 refine Qk [8,9] fun f=>?_
 have hm:aK (fun _=>False) w w2:=aH nK.out _
 exact HQ.out.err f w2 tv k a4d.out (HB.out.trans (nK.out.mono HB.out.size)) (aG qY.out hm (fun _ _=>id)) (BD.out.mono (fun a ys hr=>hr.mod hm (fun k _ _=>⟨id,trivial⟩)))
theorem Pe (x:Cx) (hx:x.All) (hT:x.T.length≤100000000) (au:Value) (m b0:Nat) (hB:x.B≤b0) (c0:DC) (w0:World) (v0:DV) (s:St) (sb0 fb0:List Nat) (n0:Nat) (l:List (aP×St)) (xs:List Value) (tv:Value) (h:J0 x c0 w0 v0 s m sb0 fb0 n0 b0 l xs tv au)
  (tk:aP) (s':St) (uR:l8 cG x.o s=.ok (tk,s')) (c:DC) (w:World) (v:DV) (sb fb:List Nat) (n:Nat) (B9:TS x c w v s' m sb fb n) (t:Value) (BT:Nat) (ht:jN w v.bufv BT t tk) (hm:aK (fun b=>x.S1 v0 b∨b∈m::(sb0++fb0)∨dG c0.nextTok b) w0 w) (h1:∀ b∈m::(sb++fb),b∈m::(sb0++fb0)∨w0.heap.size≤b) (h2:∀ b,x.S1 v b→x.S1 v0 b∨w0.heap.size≤b) (h3:∀ g,dG c.nextTok g→dG c0.nextTok g∨w0.heap.size≤g) (iK:∀ nm ats,tk=.start nm ats→ats.length≤1000000000)
  (Q:Exit→Act→World→Prop) (hQ:Bz x au m b0 s l xs Q) (f:Nat→Value) :
  (J1 8).wp prog Q (fr 45 f [(7,.pointer (some ⟨b0,0,none⟩)),(10,bS x),(11,tv),(12,t),(13,.nilIface)]) w:=by
 obtain ⟨a1,a2,a3,a4,a5,a6,a7,a8,a9⟩:=h.step hx.toOk uR B9 hm h1 h2 h3
 obtain ⟨e0,bf,hR,_,_⟩:=B9.rd.rd
 have HLC:=Lh (hR.line_col B9.rd.nb tk (NG hR.suf))
 have hit:=Lh (Un x hx.toOk c w v s'.rest e0 bf hR _ (NG hR.suf) BT t tk ht iK)
 have a1u:(St.init x.T).mu2=8*x.T.length:=by rw [mN rfl];unfold St.mu St.init;simp
 have hln:l.length≤1000000000:=by rw [a1u] at a8;omega
 have HLN:=Lh hln
 have HA:=Lh (And.intro a1 (And.intro a2 (And.intro a3 (And.intro a4 (And.intro a5 (And.intro a6 (And.intro a7 (And.intro a8 a9))))))))
 have Fn:=Lh B9
 have HTV:=Lh h.tvb
 have HQ:=Lh hQ
 have o5:=Lh hB
 clear hx hT hB h uR B9 ht hm h1 h2 h3 iK hQ a1 a2 a3 a4 a5 a6 a7 a8 a9 hR a1u hln
 obtain ⟨p,hp⟩:∃ p,p=tk.itok (x.T.take (x.T.length-s'.rest.length)):=⟨_,rfl⟩
 rw [←hp] at hit
 have HP:=Lh hp
 clear hp
 conv=>arg 2;unfold J1;whnf
 (refine vg ?_;intro K hK)
 refine hit.out.mono ?_
 rintro e3 w3 ⟨⟨sa,sl,sc,rfl,qG⟩,l9⟩
 obtain ⟨b1,b2,b3,b4,b5,b6,b7,b8,b9⟩:=HA.out
 obtain ⟨tv',w4,gA,eC,xI,rK⟩:=NF w3 b0 (Nat.le_trans (Nat.le_of_lt b2.lt) l9.size) tv l.length HLN.out xs (aG (S:=fun _=>False) b3 (aH l9 _) (fun _ _=>id)) p.kind p.space p.loc (.slice sa sl sc) rfl p.text p.at' v.line (v.off-v.lstart+1)
 have SS:=Lh qG
 have lJ:=Lh l9
 have xC:=Lh eC
 have HGR:=Lh xI
 have Fq:=Lh rK
 clear hit qG l9 eC xI rK b1 b2 b3 b4 b5 b6 b7 b8 b9
 go_simp
 (revert K;refine vB ?_)
 refine gQ rfl (.tmp 39) (.tmp 43) _ _ rfl _ _ _ (by rw [dZ (by decide)];(try simp only [aL,aQ,aS,bD,Nat.reduceEqDiff,↓reduceIte]);(try rfl)) (by rw [dZ (by decide)];(try simp only [aL,aQ,aS,bD,Nat.reduceEqDiff,↓reduceIte]);(try rfl)) gA ?_
 clear gA
 rw [mC (by decide)]
 refine vg ?_
 refine Qk [7,10,11] fun f=>?_
 obtain ⟨b1,b2,b3,b4,b5,b6,b7,b8,b9⟩:=HA.out
 have hp:=HP.out
 subst hp
 exact HQ.out.on f c w4 v s' sb fb n _ _ tv' (J0.lay o5.out Fn.out b1 b2 HTV.out b3 b4 b5 b6 b7 b8 lJ.out SS.out xC.out HGR.out Fq.out HLC.out) b9
structure AuL (w:World) (A:Option Addr) (C:Nat) (l:List Bs):Prop where
 n:l.length≤1000000000000
 c:l.length≤C
 at':0<l.length→∃ b o,A=some ⟨b,o,none⟩∧b<w.heap.size∧∀ j a,l[j]?=some a→w.cell? ⟨b,o+j,none⟩=some (aB a)∧a.length≤1000000000000
theorem AuL.nil (w:World) (A:Option Addr) (C:Nat):AuL w A C []:=⟨by simp,by simp,fun h=>(by simp at h)⟩
theorem NH (T:Bs) (hT:T.length≤100000000) (o:cU) (jL:o.ents=none) (a1v:o.auto=[]) (auA:Option Addr) (auC:Nat) (pcA:Option Addr) (pcN pcC:Nat) (pcs:List Int) (w:World) (hE:NE w) (Jq:AuL w auA auC o.auto) (hp:MT w pcA pcN pcC pcs) :
  Calls prog 5 #[aB T,.slice pcA pcN pcC,.bool o.fails,Sy o.raw (!o.strict) (.slice auA o.auto.length auC) o.space] w (V0 T o w):=by
 obtain ⟨eofA,he,hl⟩:=hE.eof
 obtain ⟨x,hx⟩:∃ x,x=Iw w T o eofA pcA pcN pcC pcs:=⟨_,rfl⟩
 have BX:=Lh (show x.All by rw [hx];exact Z7 hE.toEnv (by omega) o he hl hp)
 have HEB:=Lh (show ∃ cs t,aJ x.W0 x.eofA.block cs t by rw [hx];exact hE.eofB eofA he)
 have HET:=Lh (show x.W0.cell? ⟨1,0,none⟩=some (KR 49) by rw [hx];exact hE.et)
 have a1w:=Lh (show 1<x.B by rw [hx];exact hE.etB)
 have Fi:=Lh (show lQ x.W0 by rw [hx];exact hE.af)
 have VD:=Lh (show 3<x.B by rw [hx];exact hE.afB)
 have hxo:x.o=o:=by rw [hx];rfl
 have hxT:x.T=T:=by rw [hx];rfl
 have hxW:x.W0=w:=by rw [hx];rfl
 have hxB:x.B=w.heap.size:=by rw [hx];rfl
 have a1x:x.rd=w.heap.size+1:=by rw [hx];rfl
 have hdx:x.d=w.heap.size+4:=by rw [hx];rfl
 have PH:x.br=w.heap.size+5:=by rw [hx];rfl
 have a1y:x.rb=w.heap.size+6:=by rw [hx];rfl
 have HX:=Lh hx
 have OU:=Lh hxo
 have KS:=Lh hxT
 have HXW:=Lh hxW
 have Pf:=Lh hxB
 have wM:=Lh hT
 have HAU:=Lh Jq
 have HFE:=Lh (show x.o.auto=[] by rw [hxo];exact a1v)
 have xP:=Lh jL
 have HDX:=Lh hdx
 have Uz:=Lh a1x
 have HBX:=Lh PH
 have a4e:=Lh a1y
 clear a1v hx hT hE he hl hp Jq jL hxo hxT hxW hxB
 have a1z:=Lh (fun (w':World) (hs:w'.heap.size=w.heap.size+2)=>VE x w' o.raw (!o.strict) auA o.auto.length auC o.space (by omega) (by omega) (by omega))
 clear hdx PH a1y a1x
 refine eJ 45 func5 [_,_,_,_] fun f=>?_
 simp only [aE]
 (refine vg ?_;(repeat with_reducible intro K hK))
 rw [show (w.heap.size+1)=x.rd from Uz.out.symm]
 have a2A:aJ ((w.alloc (.cells #[.bool o.raw,.bool (!o.strict),.slice none 0 0,.slice auA o.auto.length auC,aB o.space] 32)).alloc (.cells #[aB T,.slice pcA pcN pcC,.int .i64 0,.bool o.fails] 46)) x.rd #[aB T,.slice pcA pcN pcC,.int .i64 0,.bool o.fails] 46:=by
  have:=aJ.new (w.alloc (.cells #[.bool o.raw,.bool (!o.strict),.slice none 0 0,.slice auA o.auto.length auC,aB o.space] 32)) #[aB T,.slice pcA pcN pcC,.int .i64 0,.bool o.fails] 46
  rw [Uz.out];simpa using this
 have a2B:aJ ((w.alloc (.cells #[.bool o.raw,.bool (!o.strict),.slice none 0 0,.slice auA o.auto.length auC,aB o.space] 32)).alloc (.cells #[aB T,.slice pcA pcN pcC,.int .i64 0,.bool o.fails] 46)) w.heap.size (q8 o (.slice auA o.auto.length auC)) 32:=(aJ.new w _ _).alloc _
 have MF:Below w.heap.size w ((w.alloc (.cells #[.bool o.raw,.bool (!o.strict),.slice none 0 0,.slice auA o.auto.length auC,aB o.space] 32)).alloc (.cells #[aB T,.slice pcA pcN pcC,.int .i64 0,.bool o.fails] 46)):=((Below.refl _ w).alloc (Nat.le_refl _) _).alloc (by simp) _
 have PI:((w.alloc (.cells #[.bool o.raw,.bool (!o.strict),.slice none 0 0,.slice auA o.auto.length auC,aB o.space] 32)).alloc (.cells #[aB T,.slice pcA pcN pcC,.int .i64 0,.bool o.fails] 46)).heap.size=w.heap.size+2:=by simp
 refine (a1z.out _ (by simp)).mono ?_
 rintro e1 w1 ⟨rfl,bP,nR,hZ,oZ,Ym⟩
 rw [PI] at Ym
 have fV:=Lh (MF.trans (bP.mono (by simp;omega)))
 obtain ⟨c,hc⟩:∃ c:DC,c={ c0 x (w.heap.size+2+1) with strict:=o.strict,auto:=.slice auA o.auto.length auC,space:=⟨o.space.toArray⟩ }:=⟨_,rfl⟩
 have dR:bO w1 x.d c v0:=by
  rw [hc]
  have h9:=nR
  rw [PI] at h9
  simpa using h9
 have K8:aJ w1 x.rd _ _:=aJ.mod (S:=fun _=>False) a2A (aH bP _) id
 have Va:aJ w1 w.heap.size (q8 o (.slice auA o.auto.length auC)) 32:=aJ.mod (S:=fun _=>False) a2B (aH bP _) id
 have hR:bX x c w1 v0 T none []:=a3w (c:=c) (by have:=wM.out;omega) x HX.out fV.out dR hZ oZ (by rw [HX.out] at K8 ⊢;exact K8)
 have sM:l4 w1 (w.heap.size+2+1) 0 (fun _=>none):=l4.of Ym
 have hS1:∀ k,x.S1 v0 k→k=w.heap.size+4∨k=w.heap.size+5∨k=w.heap.size+6∨k=w.heap.size+1:=by
  have h1:=HDX.out
  have h2:=Uz.out
  have h3:=HBX.out
  have h4:=a4e.out
  rintro k ((h|h|h|h)|h)
  ·omega
  ·omega
  ·omega
  ·omega
  ·exact h.elim
 have B9:TS x c w1 v0 (St.init T) (w.heap.size+2+1) [] [] 0:=by
  refine ⟨⟨⟨by rw [hc];rfl,by rw [hc,OU.out]⟩,⟨by rw [hc];rfl,by rw [OU.out];exact xP.out⟩,by rw [hc,OU.out],⟨auA,o.auto.length,auC,by rw [hc],by rw [OU.out],HAU.out.n,HAU.out.c,fun h=>by rw [OU.out,Pf.out,HXW.out];exact HAU.out.at' h⟩⟩,
   ⟨⟨none,[],hR,fun h=>(by cases h),fun h=>absurd rfl h⟩,by rw [hc];rfl,fun nm h=>(by cases h),(show (-1:Int)≠10 by decide)⟩,
   ⟨by rw [hc];exact rfl,⟨[],by rw [hc];exact rfl⟩,by rw [hc];rfl,sM,by simp,fun b hb=>?_,fun b hb hs=>?_⟩,fun e he=>(by cases he),fun k u h=>(by cases h),fun nm h=>(by cases h),?_,l6.none rfl (by rw [hc];rfl)⟩
  ·simp only [List.append_nil,List.mem_cons,List.not_mem_nil,or_false] at hb
   rw [hb,Pf.out];omega
  ·simp only [List.append_nil,List.mem_cons,List.not_mem_nil,or_false] at hb
   have:=hS1 b hs
   omega
  ·rw [KS.out];simp [St.init,uN]
 have dA:J0 x c w1 v0 (St.init T) (w.heap.size+2+1) [] [] 0 w.heap.size [] [] (.slice none 0 0) (.slice auA o.auto.length auC):=by
  refine ⟨B9,by rw [OU.out];exact Va,⟨Va.lt,fun hs=>by have:=hS1 _ hs;omega,fun hh=>?_,fun hh=>by rw [show c.nextTok=.nilIface by rw [hc];rfl] at hh;exact hh.elim⟩,by simp [Value.ownBlock],⟨rfl,Or.inl ⟨rfl,rfl⟩⟩,fun k hk=>(by cases hk),.nil,fun l' e ht=>(by rw [KS.out];simpa using ht),fun _=>rfl,by rw [KS.out];simp⟩
  simp only [List.append_nil,List.mem_cons,List.not_mem_nil,or_false] at hh
  omega
 have gC:=Lh dA
 clear bP nR hZ oZ Ym dR hc K8 a2A a2B MF a1z Va hR sM hS1 B9 dA PI
 ((repeat revert K);refine vS ?_)
 (refine cJ [7,10,11] fun f=>?_)
 obtain ⟨m,hm⟩:∃ m,m=w.heap.size+2+1:=⟨_,rfl⟩
 rw [←hm] at gC
 clear hm
 refine wp_loop_ghost_k (a1r x (.slice auA o.auto.length auC) m w.heap.size) (St.init T).mu2 ⟨f,c,v0,St.init T,[],[],0,[],[],.slice none 0 0,rfl,gC.out,rfl⟩ ?_
 clear gC
 rintro k _ w2 ⟨f,c,v,s,sb,fb,n,l,xs,tv,rfl,dA,hk⟩ J K2 hJ cY
 have HJ:=Lh hJ
 have dN:=Lh cY
 have gC:=Lh dA
 have HK:=Lh hk
 have ZT:∀ j,w2.cell? ⟨w.heap.size,j,none⟩=(q8 o (.slice auA o.auto.length auC))[j]?:=by have h:=dA.opt.cell;rw [OU.out] at h;exact h
 have hfo:=dA.opt.frozen
 have a2C:s.mu2≤8*T.length:=by
  have h1:=dA.mu
  have h2:(St.init x.T).mu2=8*T.length:=by rw [mN rfl,KS.out];unfold St.mu St.init;simp
  omega
 have HMU:=Lh a2C
 clear hJ cY dA hk a2C
 have iZ:o.raw=true∨o.raw=false:=by cases o.raw<;>simp
 rcases iZ with fT|fT
 ·have xH:l8 cG x.o s=fS x.o s:=by unfold l8;rw [OU.out,fT];rfl
  have OV:=Lh xH
  have GP:=Lh (QW x BX.out Fi.out VD.out c w2 v s m sb fb n  gC.out.ts (gC.out.next (by rw [OU.out];exact fT)))
  clear xH
  (refine vg ?_;(repeat with_reducible intro K hK))
  refine GP.out.mono ?_
  rintro e1 w3 ⟨t,e,rfl,hp⟩
  rw [←OV.out] at hp
  have HP:=Lh hp
  clear hp GP ZT hfo
  go_simp
  ((repeat revert K);refine vT 8 ?_)
  (refine cJ [7,10,11,12,13] fun f=>?_)
  have hp:=HP.out
  unfold mM at hp
  cases bR:l8 cG x.o s with
  | error kk=>
   rw [bR] at hp
   obtain ⟨_,p2,p3,p4,p5⟩:=hp
   have Cb:∀ k,JZ x v c.nextTok m sb fb w2 k→¬ (x.S1 v k∨k∈m::(sb++fb)∨dG c.nextTok k):=fun k hf hh=>by
    rcases hh with hh|hh|hh
    ·exact hf.s1 hh
    ·exact hf.own hh
    ·exact hf.pend hh
   refine aY (Ca x BX.out HEB.out HET.out a1w.out (.slice auA o.auto.length auC) m w.heap.size s l xs tv kk ?_ w3 (aG gC.out.row p5 (fun k hk=>Cb k (gC.out.tvf k hk))) (gC.out.rows.mono (fun a ys hr=>hr.mod p5 (fun k hk _=>⟨Cb k hk.1,trivial⟩))) t e p2 p3 p4 _ ⟨fun f c' w' v' s' sb' fb' n' l' xs' tv' QX bB=>?_,fun f w' tv' kk' C0 A8 D2 oS=>?_⟩ f) (by kernel_rfl)
   ·have h9:=gC.out.run [] kk (.stop bR)
    simpa using h9
   ·refine dN.out _ _ ⟨s'.mu2,by rw [HK.out];exact bB,HJ.out _ _ _ ⟨f,c',v',s',sb',fb',n',l',xs',tv',rfl,QX,rfl⟩⟩
   ·(refine kX ?_)
    rw [Pf.out,HXW.out] at A8
    rw [KS.out] at oS
    refine ⟨l,kk',tv',xs,rfl,?_,A8,D2,oS,?_⟩
    ·have h9:=C0
     rw [OU.out,KS.out] at h9
     exact h9
    ·have h1:=gC.out.mu
     have h2:(St.init x.T).mu2=8*T.length:=by rw [mN rfl,KS.out];unfold St.mu St.init;simp
     omega
  | ok pr=>
   obtain ⟨tk,s2⟩:=pr
   rw [bR] at hp
   obtain ⟨rfl,c3,v3,sb3,fb3,n3,g1,⟨BT,g2⟩,g3,g4,g5,g6⟩:=hp
   refine aY (Pe x BX.out (by rw [KS.out];exact wM.out) (.slice auA o.auto.length auC) m w.heap.size (by rw [Pf.out];exact Nat.le_refl _) c w2 v s sb fb n l xs tv gC.out tk s2 bR c3 w3 v3 sb3 fb3 n3 g1 t BT g2 g3 g4 g5 g6 (fun nm ats ht=>?_) _ ⟨fun f c' w' v' s' sb' fb' n' l' xs' tv' QX bB=>?_,fun f w' tv' kk' C0 A8 D2 oS=>?_⟩ f) (by kernel_rfl)
   ·subst ht
    obtain ⟨e9,b9,Tq,_,_⟩:=gC.out.ts.rd.rd
    have h9:=GU (by rw [OU.out];exact xP.out) bR Tq.suf.length_le gC.out.ts.tcl (fun tk Ft=>by
     have h:=gC.out.ts.nxt
     unfold l6 at h
     rw [Ft] at h
     obtain ⟨_,_,_,_,h4,_⟩:=h
     exact h4)
    have h7:=BX.out.toOk.len
    omega
   ·refine dN.out _ _ ⟨s'.mu2,by rw [HK.out];exact bB,HJ.out _ _ _ ⟨f,c',v',s',sb',fb',n',l',xs',tv',rfl,QX,rfl⟩⟩
   ·(refine kX ?_)
    rw [Pf.out,HXW.out] at A8
    rw [KS.out] at oS
    refine ⟨l,kk',tv',xs,rfl,?_,A8,D2,oS,?_⟩
    ·have h9:=C0
     rw [OU.out,KS.out] at h9
     exact h9
    ·have h1:=gC.out.mu
     have h2:(St.init x.T).mu2=8*T.length:=by rw [mN rfl,KS.out];unfold St.mu St.init;simp
     omega
 ·have xH:l8 cG x.o s=sW cG x.o s:=by unfold l8;rw [OU.out,fT];rfl
  have OV:=Lh xH
  have GP:=Lh (Kp x BX.out Fi.out VD.out HFE.out HEB.out c w2 v s m sb fb n gC.out.ts)
  clear xH
  (refine vg ?_;(repeat with_reducible intro K hK))
  refine GP.out.mono ?_
  rintro e1 w3 ⟨t,e,rfl,hp⟩
  rw [←OV.out] at hp
  have HP:=Lh hp
  clear hp GP ZT hfo
  go_simp
  ((repeat revert K);refine vT 8 ?_)
  (refine cJ [7,10,11,12,13] fun f=>?_)
  have hp:=HP.out
  unfold mM at hp
  cases bR:l8 cG x.o s with
  | error kk=>
   rw [bR] at hp
   obtain ⟨_,p2,p3,p4,p5⟩:=hp
   have Cb:∀ k,JZ x v c.nextTok m sb fb w2 k→¬ (x.S1 v k∨k∈m::(sb++fb)∨dG c.nextTok k):=fun k hf hh=>by
    rcases hh with hh|hh|hh
    ·exact hf.s1 hh
    ·exact hf.own hh
    ·exact hf.pend hh
   refine aY (Ca x BX.out HEB.out HET.out a1w.out (.slice auA o.auto.length auC) m w.heap.size s l xs tv kk ?_ w3 (aG gC.out.row p5 (fun k hk=>Cb k (gC.out.tvf k hk))) (gC.out.rows.mono (fun a ys hr=>hr.mod p5 (fun k hk _=>⟨Cb k hk.1,trivial⟩))) t e p2 p3 p4 _ ⟨fun f c' w' v' s' sb' fb' n' l' xs' tv' QX bB=>?_,fun f w' tv' kk' C0 A8 D2 oS=>?_⟩ f) (by kernel_rfl)
   ·have h9:=gC.out.run [] kk (.stop bR)
    simpa using h9
   ·refine dN.out _ _ ⟨s'.mu2,by rw [HK.out];exact bB,HJ.out _ _ _ ⟨f,c',v',s',sb',fb',n',l',xs',tv',rfl,QX,rfl⟩⟩
   ·(refine kX ?_)
    rw [Pf.out,HXW.out] at A8
    rw [KS.out] at oS
    refine ⟨l,kk',tv',xs,rfl,?_,A8,D2,oS,?_⟩
    ·have h9:=C0
     rw [OU.out,KS.out] at h9
     exact h9
    ·have h1:=gC.out.mu
     have h2:(St.init x.T).mu2=8*T.length:=by rw [mN rfl,KS.out];unfold St.mu St.init;simp
     omega
  | ok pr=>
   obtain ⟨tk,s2⟩:=pr
   rw [bR] at hp
   obtain ⟨rfl,c3,v3,sb3,fb3,n3,g1,⟨BT,g2⟩,g3,g4,g5,g6⟩:=hp
   refine aY (Pe x BX.out (by rw [KS.out];exact wM.out) (.slice auA o.auto.length auC) m w.heap.size (by rw [Pf.out];exact Nat.le_refl _) c w2 v s sb fb n l xs tv gC.out tk s2 bR c3 w3 v3 sb3 fb3 n3 g1 t BT g2 g3 g4 g5 g6 (fun nm ats ht=>?_) _ ⟨fun f c' w' v' s' sb' fb' n' l' xs' tv' QX bB=>?_,fun f w' tv' kk' C0 A8 D2 oS=>?_⟩ f) (by kernel_rfl)
   ·subst ht
    obtain ⟨e9,b9,Tq,_,_⟩:=gC.out.ts.rd.rd
    have h9:=GU (by rw [OU.out];exact xP.out) bR Tq.suf.length_le gC.out.ts.tcl (fun tk Ft=>by
     have h:=gC.out.ts.nxt
     unfold l6 at h
     rw [Ft] at h
     obtain ⟨_,_,_,_,h4,_⟩:=h
     exact h4)
    have h7:=BX.out.toOk.len
    omega
   ·refine dN.out _ _ ⟨s'.mu2,by rw [HK.out];exact bB,HJ.out _ _ _ ⟨f,c',v',s',sb',fb',n',l',xs',tv',rfl,QX,rfl⟩⟩
   ·(refine kX ?_)
    rw [Pf.out,HXW.out] at A8
    rw [KS.out] at oS
    refine ⟨l,kk',tv',xs,rfl,?_,A8,D2,oS,?_⟩
    ·have h9:=C0
     rw [OU.out,KS.out] at h9
     exact h9
    ·have h1:=gC.out.mu
     have h2:(St.init x.T).mu2=8*T.length:=by rw [mN rfl,KS.out];unfold St.mu St.init;simp
     omega
noncomputable def Cc (n:Nat):Code:=((Tryz.f7.body).bind (Code.partAt n)).getD .skip
theorem S7:(prog.info? 64).map (fun i=>(i.zero,i.size,i.bytes))=some (some (.agg #[.string ⟨#[]⟩,.string ⟨#[]⟩,.string ⟨#[]⟩]),3,48):=by kernel_rfl
theorem QY (w3:World) (base:Nat) (hb:base≤w3.heap.size) (v:Value) (acc:List eI) (hn:acc.length≤1000000000) (h:w3.ownsRow base 64 3 v acc.length (aN acc)) (a:eI) :
  ∃ v' w4,(Builtin.append_ #[59,59] 59 #[v,.slice (some ⟨w3.heap.size,0,none⟩) 1 1]).run prog (w3.alloc (.cells #[aB a.1,aB a.2.1,aB a.2.2] 64))=.ok v' w4 ∧
   w4.ownsRow base 64 3 v' (acc++[a]).length (aN (acc++[a]))∧(w3.alloc (.cells #[aB a.1,aB a.2.1,aB a.2.2] 64)).grownBy w4 v.ownBlock∧(v'.ownBlock=v.ownBlock∨v'.ownBlock=some (w3.heap.size+1)):=by
 obtain ⟨i,hi,hz,h1,h2⟩:=info_parts S7
 obtain ⟨v',w4,hr,ho,hg,Ta,eC⟩:=run_append_own_at (P:=prog) (w3.alloc (.cells #[aB a.1,aB a.2.1,aB a.2.2] 64)) base 59 59 64 i _ 3 48 underlying59 hi hz h1 h2 rfl (by omega) v acc.length (aN acc) (h.alloc _) ⟨w3.heap.size,0,none⟩ 1 1 [aB a.1,aB a.2.1,aB a.2.2] rfl
  (by
   intro j u hj
   have hb:=aJ.new w3 #[aB a.1,aB a.2.1,aB a.2.2] 64
   rw [show ((⟨w3.heap.size,0,none⟩:Addr).add j)=⟨w3.heap.size,j,none⟩ by cases j<;>simp [Addr.add],hb.cell]
   simpa using hj)
  (by
   intro u hu
   simp only [List.mem_cons,List.not_mem_nil,or_false] at hu
   rcases hu with rfl|rfl|rfl<;>rfl)
  (by unfold maxLen;omega) (by omega) (by simp;omega)
 refine ⟨v',w4,hr,?_,hg,by simpa using eC⟩
 have e1:aN (acc++[a])=aN acc++[aB a.1,aB a.2.1,aB a.2.2]:=by simp [aN]
 rw [e1,List.length_append]
 exact ho
def a2D (w1:World) (o3 p5 v9 v10 v11:Value) (sv:Value) (ats:List eI) (k:Nat) (a:Act) (w:World):Prop:=
 ∃ f j av,a=fr 50 f [(3,o3),(5,p5),(6,av),(9,v9),(10,v10),(11,v11),(16,sv),(17,.int .i64 ats.length),(18,.int .i64 (j:Nat))]∧Below w1.heap.size w1 w∧w.ownsRow w1.heap.size 64 3 av (ats.take j).length (aN (ats.take j))∧k=ats.length-j∧j≤ats.length
theorem a4f (w1:World) (o3 p5 v9 v10 v11:Value) (sa:Option Addr) (sl sc:Nat) (ats:List eI) (bF:ats.length≤1000000000) (NI:w1.ownsRow 0 63 3 (.slice sa sl sc) ats.length (aN ats)) (Q:Exit→Act→World→Prop)
  (hQ:∀ f w' av,Below w1.heap.size w1 w'→w'.ownsRow w1.heap.size 64 3 av ats.length (aN ats)→Q .normal (fr 50 f [(3,o3),(5,p5),(6,av),(9,v9),(10,v10),(11,v11)]) w') (f:Nat→Value) (c1:Code) (u7:c1=.loop (Cc 7)) :
  c1.wp prog (Exit.inBlock 2 Q) (fr 50 f [(3,o3),(5,p5),(6,.slice none 0 0),(9,v9),(10,v10),(11,v11),(16,.slice sa sl sc),(17,.int .i64 ats.length),(18,.int .i64 0)]) w1:=by
 subst u7
 have HQ:=Lh hQ
 have cL:=Lh bF
 have Kq:=Lh NI
 refine wp_loop_ghost_k (a2D w1 o3 p5 v9 v10 v11 (.slice sa sl sc) ats) ats.length ⟨f,0,.slice none 0 0,rfl,Below.refl _ w1,⟨rfl,Or.inl ⟨rfl,rfl⟩⟩,by simp,Nat.zero_le _⟩ ?_
 clear hQ bF NI
 rintro k _ w ⟨f,j,av,rfl,hb,l7,hk,hj⟩ J K2 hJ cY
 have HJ:=Lh hJ
 have dN:=Lh cY
 have HB:=Lh hb
 have qY:=Lh l7
 have HK:=Lh hk
 clear hJ cY hb l7 hk
 unfold Cc
 conv=>arg 2;whnf
 by_cases bB:j<ats.length
 ·have h1:(j:Int)<(ats.length:Int):=by omega
  have h0:(0:Int)≤(j:Int):=by omega
  have qF:IntKind.i64.wrap ((j:Int)+1)=((j+1:Nat):Int):=by rw [IntKind.wrap_i64];have:=cL.out;omega
  obtain ⟨a,ha⟩:∃ a,ats[j]?=some a:=⟨ats[j],by simp [bB]⟩
  obtain ⟨g,cap,cur,rE,SY,kD⟩:∃ g cap cur,Value.slice sa sl sc=.slice (some ⟨g,0,none⟩) ats.length cap∧aJ w1 g cur 63∧cur.toList.take (ats.length*3)=aN ats:=by
   rcases Kq.out.2 with ⟨_,h9⟩|⟨g,cap,cur,h3,_,h4,_,_,_,h5⟩
   ·omega
   ·exact ⟨g,cap,cur,h3,h4,h5⟩
  simp only [Value.slice.injEq] at rE
  obtain ⟨rfl,rfl,rfl⟩:=rE
  have E7:aJ w g cur 63:=aJ.mod (S:=fun _=>False) SY (aH HB.out _) id
  obtain ⟨k1,k2,k3⟩:=yD kD ha
  have z7:w.cell? ⟨g,j*3,none⟩=some (aB a.1):=(E7.cell _).trans k1
  have z8:w.cell? ⟨g,j*3+1,none⟩=some (aB a.2.1):=(E7.cell _).trans k2
  have JU:w.cell? ⟨g,j*3+2,none⟩=some (aB a.2.2):=(E7.cell _).trans k3
  have uM:ats.take (j+1)=ats.take j++[a]:=by rw [List.take_succ,ha];rfl
  have hti:(ats.take j).length=j:=by simp;omega
  obtain ⟨wa,jY⟩:∃ wa,wa=w.alloc (.cells #[aB a.1,aB a.2.1,aB a.2.2] 63):=⟨_,rfl⟩
  have eZ:Below w.heap.size w wa:=by rw [jY];exact (Below.refl _ w).alloc (Nat.le_refl _) _
  have k8:aJ wa w.heap.size #[aB a.1,aB a.2.1,aB a.2.2] 63:=by rw [jY];exact aJ.new w _ _
  have iR:=HB.out.size
  obtain ⟨av',w4,gA,eC,xI,rK⟩:=QY wa w1.heap.size (Nat.le_trans iR eZ.size) av (ats.take j) (by have:=cL.out;omega) (aG (S:=fun _=>False) qY.out (aH eZ _) (fun _ _=>id)) a
  have wG:=k8.cell
  have FJ:=k8.frozen
  have HG:=Lh xI
  have HO:=Lh eC
  have tC:=Lh eZ
  have GP:=Lh uM
  clear k1 k2 k3 ha xI eC rK eZ k8 uM hti iR E7 SY kD
  (repeat ((fail_if_success with_reducible refine yC 9 ?_);(first|(with_reducible first|refine zA fun K hK=>?_|refine zB ?_|refine zC ?_)|((with_reducible first|refine zD rfl fun K hK=>?_|refine zE fun K hK=>?_);go_simp)|(with_reducible first|((repeat ((fail_if_success refine hK _ _ ?_);clear hK K));refine hK _ _ ?_;clear hK K)|refine zt ?_|refine zf ?_|refine zG ?_|refine zR ?_|refine zK ?_|refine zL ?_|refine zN ?_|refine zS ?_)|simp only [Exit.then,Exit.inBlock,Exit.noGoto,↓reduceIte,Nat.reduceEqDiff]|simp only [undef,reduceCtorEq,↓reduceIte])))
  rw [show w.alloc (.cells #[.string ⟨List.toArray a.1⟩,.string ⟨List.toArray a.2.1⟩,.string ⟨List.toArray a.2.2⟩] 63)=wa from jY.symm]
  clear jY z7 z8 JU
  (revert K;refine vB ?_;intro K hK)
  refine gQ rfl (.tmp 22) (.tmp 30) _ _ rfl _ _ _ (by rw [dZ (by decide)];(try simp only [aL,aQ,aS,bD,Nat.reduceEqDiff,↓reduceIte]);(try rfl)) (by rw [dZ (by decide)];(try simp only [aL,aQ,aS,bD,Nat.reduceEqDiff,↓reduceIte]);(try rfl)) gA ?_
  clear gA
  rw [mC (by decide)]
  (revert K;refine vg ?_)
  (refine Kk [3,5,6,9,10,11,16,17,18] fun f=>?_)
  have l5:aK (fun k=>av.ownBlock=some k) wa w4:=(aH ((Below.refl _ wa).alloc (Nat.le_refl _) _) _).trans (S':=fun k=>av.ownBlock=some k) ⟨HG.out.os,HG.out.tape,HG.out.output,HG.out.size,fun k hk hn=>HG.out.block k hk (fun he=>hn he.symm)⟩ (fun i _ hi=>hi)
  have Iy:∀ k,av.ownBlock=some k→w1.heap.size≤k:=fun k hk=>(aV qY.out hk).2
  have a2E:Below w1.heap.size w1 wa:=HB.out.trans (tC.out.mono HB.out.size)
  refine dN.out _ _ ⟨ats.length-(j+1),by rw [HK.out];omega,HJ.out _ _ _ ⟨f,j+1,av',rfl,aK.below a2E a2E.size l5 Iy,?_,rfl,bB⟩⟩
  rw [GP.out];exact HO.out
 ·have hjj:j=ats.length:=by omega
  subst hjj
  have h1:¬ ((ats.length:Int)<(ats.length:Int)):=by omega
  (refine vg ?_;intro K hK)
  refine Qk [3,5,6,9,10,11] fun f=>?_
  have h2:=qY.out
  rw [List.take_length] at h2
  exact HQ.out f w av HB.out h2
theorem yH:(prog.info? 61).map (fun i=>(i.zero,i.size,i.bytes))=some (some (.agg #[.int .i64 0,.string ⟨#[]⟩,.string ⟨#[]⟩,.slice none 0 0,.string ⟨#[]⟩,.int .i64 0]),6,88):=by kernel_rfl
def eL (p:cH) (av:Value):List Value:=[.int .i64 p.kind,aB p.space,aB p.loc,av,aB p.text,.int .i64 p.at']
theorem QZ (w3:World) (base:Nat) (hb:base≤w3.heap.size) (v:Value) (n:Nat) (hn:n≤1000000000) (xs:List Value) (h:w3.ownsRow base 61 6 v n xs) (p:cH) (sa:Option Addr) (sl sc:Nat) :
  ∃ v' w4,(Builtin.append_ #[23,23] 23 #[v,.slice (some ⟨w3.heap.size,0,none⟩) 1 1]).run prog (w3.alloc (.cells #[.int .i64 p.kind,aB p.space,aB p.loc,.slice sa sl sc,aB p.text,.int .i64 p.at'] 61))=.ok v' w4 ∧
   w4.ownsRow base 61 6 v' (n+1) (xs++eL p (.slice sa sl sc))∧(w3.alloc (.cells #[.int .i64 p.kind,aB p.space,aB p.loc,.slice sa sl sc,aB p.text,.int .i64 p.at'] 61)).grownBy w4 v.ownBlock∧(v'.ownBlock=v.ownBlock∨v'.ownBlock=some (w3.heap.size+1)):=by
 obtain ⟨i,hi,hz,h1,h2⟩:=info_parts yH
 obtain ⟨v',w4,hr,ho,hg,_,eC⟩:=run_append_own_at (P:=prog) (w3.alloc (.cells #[.int .i64 p.kind,aB p.space,aB p.loc,.slice sa sl sc,aB p.text,.int .i64 p.at'] 61)) base 23 23 61 i _ 6 88 underlying23 hi hz h1 h2 rfl (by omega) v n xs (h.alloc _) ⟨w3.heap.size,0,none⟩ 1 1 (eL p (.slice sa sl sc)) rfl
  (by
   intro j u hj
   have hb:=aJ.new w3 #[.int .i64 p.kind,aB p.space,aB p.loc,.slice sa sl sc,aB p.text,.int .i64 p.at'] 61
   rw [show ((⟨w3.heap.size,0,none⟩:Addr).add j)=⟨w3.heap.size,j,none⟩ by cases j<;>simp [Addr.add],hb.cell]
   simpa [eL] using hj)
  (by
   intro u hu
   simp only [eL,List.mem_cons,List.not_mem_nil,or_false] at hu
   rcases hu with rfl|rfl|rfl|rfl|rfl|rfl<;>rfl)
  (by unfold maxLen;omega) (by omega) (by simp;omega)
 exact ⟨v',w4,hr,ho,hg,by simpa using eC⟩
def lB (w:World) (base:Nat) (G:Nat→Prop) (p:cH) (ys:List Value):Prop:=
 ∃ sa sl sc,ys=eL p (.slice sa sl sc)∧w.ownsRow base 64 3 (.slice sa sl sc) p.attrs.length (aN p.attrs)∧∀ k,(Value.slice sa sl sc).ownBlock=some k→G k
theorem lB.mod {w w':World} {base:Nat} {G G':Nat→Prop} {p:cH} {ys:List Value} {S:Nat→Prop} (h:lB w base G p ys) (hm:aK S w w') (hG:∀ k,G k→k<w.heap.size→¬ S k∧G' k):lB w' base G' p ys:=by
 obtain ⟨sa,sl,sc,rfl,hr,hg⟩:=h
 exact ⟨sa,sl,sc,rfl,aG hr hm (fun k hk=>(hG k (hg k hk) (aV hr hk).1).1),fun k hk=>(hG k (hg k hk) (aV hr hk).1).2⟩
structure Cd (w:World) (g o:Nat) (p:cH):Prop where
 ex:∃ sa sl sc i6 i7,w.cell? ⟨g,o,none⟩=some (.int .i64 p.kind)∧w.cell? ⟨g,o+1,none⟩=some (aB p.space)∧w.cell? ⟨g,o+2,none⟩=some (aB p.loc)∧w.cell? ⟨g,o+3,none⟩=some (.slice sa sl sc)∧w.cell? ⟨g,o+4,none⟩=some (aB p.text)∧w.cell? ⟨g,o+5,none⟩=some (.int .i64 p.at') ∧
  w.cell? ⟨g,o+6,none⟩=some (.int .i64 i6)∧w.cell? ⟨g,o+7,none⟩=some (.int .i64 i7)∧w.ownsRow 0 63 3 (.slice sa sl sc) p.attrs.length (aN p.attrs)
 len:p.attrs.length≤1000000000
def PlO (w0:World) (tv:Value) (l:List cH) (k:Nat) (a:Act) (w:World):Prop:=
 ∃ f i out xs,a=fr 50 f [(3,out),(9,tv),(10,.int .i64 l.length),(11,.int .i64 (i:Nat))]∧Below w0.heap.size w0 w∧w.ownsRow w0.heap.size 61 6 out i xs∧cS (lB w w0.heap.size (fun k=>out.ownBlock≠some k)) (l.take i) xs∧k=l.length-i∧i≤l.length
theorem Kr (w0:World) (l:List cH) (bF:l.length≤1000000000) (g ro cap:Nat) (hg:g<w0.heap.size) (NI:∀ i p,l[i]?=some p→Cd w0 g (ro+i*8) p) :
  Calls prog 7 #[.slice (some ⟨g,ro,none⟩) l.length cap] w0 fun en w'=>∃ out xs,en=.returned out∧Below w0.heap.size w0 w'∧w'.ownsRow w0.heap.size 61 6 out l.length xs∧cS (lB w' w0.heap.size (fun _=>True)) l xs:=by
 have cL:=Lh bF
 have Kq:=Lh NI
 have XB:=Lh hg
 clear bF NI hg
 refine eJ 50 func7 [_] fun f=>?_
 simp only [aE]
 (refine vg ?_;intro K hK)
 (refine cJ [3,9,10,11] fun f=>?_)
 refine wp_loop_ghost_k (PlO w0 (.slice (some ⟨g,ro,none⟩) l.length cap) l) l.length ⟨f,0,.slice none 0 0,[],rfl,Below.refl _ w0,⟨rfl,Or.inl ⟨rfl,rfl⟩⟩,.nil,by simp,Nat.zero_le _⟩ ?_
 rintro k _ w ⟨f,i,out,xs,rfl,hb,l7,kW,hk,hi⟩ J K2 hJ cY
 have HJ:=Lh hJ
 have dN:=Lh cY
 have HB:=Lh hb
 have qY:=Lh l7
 have BD:=Lh kW
 have HK:=Lh hk
 clear hJ cY hb l7 kW hk
 by_cases bB:i<l.length
 ·have h1:(i:Int)<(l.length:Int):=by omega
  have h0:(0:Int)≤(i:Int):=by omega
  have qF:IntKind.i64.wrap ((i:Int)+1)=((i+1:Nat):Int):=by rw [IntKind.wrap_i64];have:=cL.out;omega
  obtain ⟨p,hp⟩:∃ p,l[i]?=some p:=⟨l[i],by simp [bB]⟩
  obtain ⟨sa,sl,sc,i6,i7,c0,c1,c2,c3,c4,c5,c6,c7,qG⟩:=(Kq.out i p hp).ex
  have FF:=(Kq.out i p hp).len
  have hce:∀ j,w.cell? ⟨g,j,none⟩=w0.cell? ⟨g,j,none⟩:=fun j=>HB.out.cell (p:=⟨g,j,none⟩) XB.out
  rw [←hce] at c0 c1 c2 c3 c4 c5 c6 c7
  obtain ⟨w1,Ks⟩:∃ w1,w1=w.alloc (.cells #[.int .i64 p.kind,aB p.space,aB p.loc,.slice sa sl sc,aB p.text,.int .i64 p.at',.int .i64 i6,.int .i64 i7] 55):=⟨_,rfl⟩
  have eZ:Below w.heap.size w w1:=by rw [Ks];exact (Below.refl _ w).alloc (Nat.le_refl _) _
  have jM:aJ w1 w.heap.size #[.int .i64 p.kind,aB p.space,aB p.loc,.slice sa sl sc,aB p.text,.int .i64 p.at',.int .i64 i6,.int .i64 i7] 55:=by rw [Ks];exact aJ.new w _ _
  have a2F:w1.ownsRow 0 63 3 (.slice sa sl sc) p.attrs.length (aN p.attrs):=aG (S:=fun _=>False) (aG (S:=fun _=>False) qG (aH (HB.out) _) (fun _ _=>id)) (aH eZ _) (fun _ _=>id)
  have xH:sl=p.attrs.length:=by
   rcases qG.2 with ⟨h9,h8⟩|⟨g9,cap9,cur9,h9,_⟩
   ·simp only [Value.slice.injEq] at h9;rw [h9.2.1,h8]
   ·simp only [Value.slice.injEq] at h9;exact h9.2.1
  subst xH
  have uM:l.take (i+1)=l.take i++[p]:=by rw [List.take_succ,hp];rfl
  have W1:=Lh (fun o3 p5 v9 v10 v11 Q hQ f c1 e=>a4f w1 o3 p5 v9 v10 v11 sa p.attrs.length sc p.attrs FF a2F Q hQ f c1 e)
  have o5:=Lh eZ
  have vQ:=Lh jM
  have GP:=Lh uM
  clear qG a2F FF hce hp uM
  (revert K;refine vT 5 ?_;(repeat with_reducible intro K hK))
  rw [show w.alloc (.cells #[.int .i64 p.kind,.string ⟨List.toArray p.space⟩,.string ⟨List.toArray p.loc⟩,.slice sa p.attrs.length sc,.string ⟨List.toArray p.text⟩,.int .i64 p.at',.int .i64 i6,.int .i64 i7] 55)=w1 from Ks.symm]
  clear Ks c0 c1 c2 c3 c4 c5 c6 c7 eZ
  have Zw:=jM.cell
  have Zx:=jM.frozen
  clear jM
  ((repeat revert K);refine vg ?_;(repeat with_reducible intro K hK))
  (refine cJ [3,5,6,9,10,11,16,17,18] fun f=>?_)
  refine W1.out _ _ _ _ _ _ ?_ f _ (by kernel_rfl)
  intro f w2 av dJ D3
  obtain ⟨sa',sl',sc',rfl⟩:=qB D3
  have hz0:=HB.out.size
  have iR:=o5.out.size
  have KN:=dJ.size
  have Vb:aK (fun _=>False) w w2:=(aH o5.out _).trans (aH dJ _) (fun _ _ h=>h)
  obtain ⟨out',w4,gA,eC,xI,rK⟩:=QZ w2 w0.heap.size (by omega) out i (by have:=cL.out;omega) xs (aG qY.out Vb (fun _ _=>id)) p sa' sl' sc'
  have Vc:aJ w2 w.heap.size _ _:=aJ.mod (S:=fun _=>False) vQ.out (aH dJ _) id
  have a5p:=Vc.cell
  have a5q:=Vc.frozen
  have nK:=Lh dJ
  have GV:=Lh D3
  have HG:=Lh xI
  have HO:=Lh eC
  have Fq:=Lh rK
  have a2G:=Lh Vb
  clear dJ D3 xI eC rK Vb Vc W1 Zw Zx hz0 iR KN
  ((repeat revert K);refine vB ?_;(repeat with_reducible intro K hK))
  refine gQ rfl (.tmp 33) (.tmp 46) _ _ rfl _ _ _ (by rw [dZ (by decide)];(try simp only [aL,aQ,aS,bD,Nat.reduceEqDiff,↓reduceIte]);(try rfl)) (by rw [dZ (by decide)];(try simp only [aL,aQ,aS,bD,Nat.reduceEqDiff,↓reduceIte]);(try rfl)) gA ?_
  clear gA
  rw [mC (by decide)]
  ((repeat revert K);refine vg ?_;intro K hK)
  (refine Kk [3,9,10,11] fun f=>?_)
  have l5:aK (fun k=>out.ownBlock=some k) w2 w4:=(aH ((Below.refl _ w2).alloc (Nat.le_refl _) _) _).trans (S':=fun k=>out.ownBlock=some k) ⟨HG.out.os,HG.out.tape,HG.out.output,HG.out.size,fun k hk hn=>HG.out.block k hk (fun he=>hn he.symm)⟩ (fun i _ hi=>hi)
  have a2H:aK (fun k=>out.ownBlock=some k) w w4:=(a2G.out.mono (fun _ _ h=>h.elim)).trans l5 (fun _ _ h=>h)
  have Iy:∀ k,out.ownBlock=some k→w0.heap.size≤k:=fun k hk=>(aV qY.out hk).2
  have hnz:w2.heap.size+1≤w4.heap.size:=by have h9:=HG.out.size;rw [show ∀ o:Obj,(w2.alloc o).heap.size=w2.heap.size+1 from fun o=>Array.size_push _] at h9;exact h9
  have cB:∀ k,k<w2.heap.size→out.ownBlock≠some k→out'.ownBlock≠some k:=fun k hk hn he=>by
   rcases Fq.out with rK|rK
   ·exact hn (rK▸he)
   ·rw [rK] at he
    have:w2.heap.size+1=k:=by simpa using he
    omega
  refine dN.out _ _ ⟨l.length-(i+1),by rw [HK.out];omega,HJ.out _ _ _ ⟨f,i+1,out',_,rfl,aK.below HB.out HB.out.size a2H Iy,HO.out,?_,rfl,bB⟩⟩
  rw [GP.out]
  refine .snoc (BD.out.mono (fun a ys hr=>hr.mod a2H (fun k hk hl=>⟨hk,cB k (Nat.lt_of_lt_of_le hl a2G.out.size) hk⟩))) ?_
  have KQ:∀ k,(Value.slice sa' sl' sc').ownBlock=some k→k<w2.heap.size∧w1.heap.size≤k:=fun k hk=>aV GV.out hk
  have JX:∀ k,(Value.slice sa' sl' sc').ownBlock=some k→out.ownBlock≠some k:=fun k hk he=>by
   have h8:=(KQ k hk).2
   have h9:=(aV qY.out he).1
   have h7:=vQ.out.lt
   have h6:=o5.out.size
   omega
  have Uy:w2.ownsRow w0.heap.size 64 3 (.slice sa' sl' sc') p.attrs.length (aN p.attrs):=by
   refine ⟨GV.out.1,?_⟩
   rcases GV.out.2 with h9|⟨g,cap,cur,e1,e2,e3⟩
   ·exact Or.inl h9
   ·exact Or.inr ⟨g,cap,cur,e1,Nat.le_trans (Nat.le_trans HB.out.size o5.out.size) e2,e3⟩
  exact ⟨sa',sl',sc',rfl,aG Uy l5 (fun k hk he=>JX k hk he),fun k hk=>cB k (KQ k hk).1 (JX k hk)⟩
 ·have sX:i=l.length:=by omega
  subst sX
  have h1:¬ ((l.length:Int)<(l.length:Int)):=by omega
  (revert K;refine vg ?_)
  (refine cW ?_)
  have h2:=BD.out
  rw [List.take_length] at h2
  exact ⟨out,xs,rfl,HB.out,qY.out,h2.mono (fun a ys hr=>hr.mod (aK.refl (fun _=>False) w) (fun _ _ _=>⟨id,trivial⟩))⟩
theorem V2 (w:World):Calls prog 7 #[.slice none 0 0] w fun en w'=>en=.returned (.slice none 0 0)∧w'=w:=by
 have h1:¬ (0:Int)<0:=by omega
 refine eJ 50 func7 [_] fun f=>?_
 simp only [aE]
 (refine vg ?_;intro K hK)
 (refine cJ [3,10,11] fun f=>?_)
 refine wp_loop_ghost_k (fun _ a w'=>(∃ f,a=fr 50 f [(3,.slice none 0 0),(10,.int .i64 0),(11,.int .i64 0)])∧w'=w) 0 ⟨⟨f,rfl⟩,rfl⟩ ?_
 rintro k _ _ ⟨⟨f,rfl⟩,rfl⟩ J K2 hJ cY
 (revert K;refine vg ?_)
 (refine cW ?_)
 exact ⟨rfl,rfl⟩
end Go.Proofs.YtdjdjbpnbjdaaaaGreatDoor
namespace Go.Proofs.YtdjdjbpnbjdaaaaGreatDoor
open Go Tryz
def rdT:Bs:=[60,97,47,62]
def rdO:cU:=⟨false,true,none,[],[],false⟩
def Vd:St:={ rest:=[],ended:=false,toClose:=some ([],[97]),stk:=[{ kind:=0,space:=[],loc:=[97],ok:=false }],ns:=fun _=>none,next:=none }
def Ve:St:={ rest:=[],ended:=false,toClose:=none,stk:=[],ns:=fun _=>none,next:=none }
theorem a4g:wB rdO (St.init rdT)=.ok (.start ([],[97]) [],Vd):=by rfl
theorem a4h:wB rdO Vd=.ok (.fin ([],[97]),Ve):=by rfl
theorem a4i:wB rdO Ve=.error .eof:=by rfl
theorem Kt (fold:Bs→Bs→Bool):o8 fold rdO (St.init rdT) [(.start ([],[97]) [],Vd),(.fin ([],[97]),Ve)] .eof:=
 .more (by rw [u5 rfl rfl];exact a4g) (.more (by rw [u5 rfl rfl];exact a4h) (.stop (by rw [u5 rfl rfl];exact a4i)))
end Go.Proofs.YtdjdjbpnbjdaaaaGreatDoor
namespace Go.Proofs.YtdjdjbpnbjdaaaaGreatDoor
open Go Go.RowKit Tryz
theorem lT {w:World} {base:Nat} {e:TypeId} {sz:Nat} {v:Value} {n:Nat} {xs:List Value} (h:w.ownsRow base e sz v n xs) (hn:0<n):∃ g cap,v=.slice (some ⟨g,0,none⟩) n cap∧base≤g∧g<w.heap.size∧n≤cap∧cap≤maxLen∧∀ k u,xs[k]?=some u→w.cell? ⟨g,k,none⟩=some u:=by
 rcases h.2 with ⟨_,h9⟩|⟨g,cap,cur,h3,h4,h5,h6,h7,h8,h9⟩
 ·omega
 ·have hb:aJ w g cur e:=h5
  refine ⟨g,cap,h3,h4,hb.lt,h6,h7,fun k u hk=>?_⟩
  rw [hb.cell]
  rw [←h9] at hk
  have WZ:=(List.getElem?_eq_some_iff.1 hk).1
  rw [List.getElem?_take,if_pos (by simp at WZ;omega),Array.getElem?_toList] at hk
  exact hk
theorem J2 {w:World} {base g:Nat} {T:Bs} {l:List (aP×St)} {xs:List Value} {G:Nat→Prop} (kW:cS (qZ w base G T) l xs) (gR:∀ k u,xs[k]?=some u→w.cell? ⟨g,k,none⟩=some u) {i:Nat} {ts:aP×St} (hi:l[i]?=some ts) (bF:(ts.1.itok (T.take (T.length-ts.2.rest.length))).attrs.length≤1000000000) :
  Cd w g (i*8) (ts.1.itok (T.take (T.length-ts.2.rest.length))):=by
 obtain ⟨ys,⟨sa,sl,sc,i6,i7,rfl,hr,_⟩,hy⟩:=kW.get (n:=8) (fun _ _ h=>h.len) hi
 have hc:∀ j u,j<8→(nA _ _ _ _ _ _ _ _)[j]?=some u→w.cell? ⟨g,i*8+j,none⟩=some u:=fun j u hj hu=>gR _ _ ((hy j hj).trans hu)
 have SI:w.ownsRow 0 63 3 (.slice sa sl sc) (ts.1.itok (T.take (T.length-ts.2.rest.length))).attrs.length (aN (ts.1.itok (T.take (T.length-ts.2.rest.length))).attrs):=by
  refine ⟨hr.1,?_⟩
  rcases hr.2 with h9|⟨g9,cap,cur,e1,e2,e3⟩
  ·exact Or.inl h9
  ·exact Or.inr ⟨g9,cap,cur,e1,Nat.zero_le _,e3⟩
 exact ⟨⟨sa,sl,sc,i6,i7,hc 0 _ (by omega) rfl,hc 1 _ (by omega) rfl,hc 2 _ (by omega) rfl,hc 3 _ (by omega) rfl,hc 4 _ (by omega) rfl,hc 5 _ (by omega) rfl,hc 6 _ (by omega) rfl,hc 7 _ (by omega) rfl,SI⟩,bF⟩
theorem Ku (w:World) (hE:NE w):Calls prog 8 #[] w fun en w'=>en=.returned (.bool true)∧Below w.heap.size w w':=by
 have HT:=Lh (NH rdT (by decide) rdO rfl rfl none 0 none 0 0 [] w hE (AuL.nil w none 0) ⟨by omega,by omega,fun h=>by omega⟩)
 clear hE
 refine eJ 36 func8 [] fun f=>?_
 simp only [aE]
 (refine vg ?_;(repeat with_reducible intro K hK))
 refine HT.out.mono ?_
 rintro e1 w1 ⟨l,e,tv,xs,rfl,Ft,hb,l7,kW,_⟩
 obtain ⟨rfl,rfl⟩:=Ft.det (Kt cG)
 obtain ⟨g,cap,rfl,RU,CU,hn,E1,gR⟩:=lT l7 (by decide)
 have s0:=J2 (i:=0) kW gR rfl (by decide)
 have s1:=J2 (i:=1) kW gR rfl (by decide)
 obtain ⟨⟨_,_,_,_,_,a0,_⟩,_⟩:=s0
 obtain ⟨⟨_,_,_,_,_,b0,b1,b2,_⟩,_⟩:=s1
 have k0:w1.cell? ⟨g,0,none⟩=some (.int .i64 1):=a0
 have k1:w1.cell? ⟨g,8,none⟩=some (.int .i64 2):=b0
 have k2:w1.cell? ⟨g,10,none⟩=some (.string ⟨#[97]⟩):=b2
 have HB:=Lh hb
 clear a0 b0 b1 b2 Ft hb l7 kW gR HT
 rw [show ((EK.code .eof:Nat):Int)=0 from rfl]
 ((repeat revert K);refine vS ?_)
 (refine cW ?_)
 exact ⟨rfl,HB.out⟩
end Go.Proofs.YtdjdjbpnbjdaaaaGreatDoor
