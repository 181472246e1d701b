/- Part of the proof that laws.FnRawTokens returns true for every argument. No conditions. -/
import Derived.Test.YtdjdjbpnbjdaaaaGreatDoorP21
import Derived.Test.YtdjdjbpnbjdaaaaGreatDoorP13
import Derived.Test.YtdjdjbpnbjdaaaaGreatDoorP01
import Derived.Shelf.Unicode.CaseLaid
import Derived.Test.YtdjdjbpnbjdaaaaGreatDoorP16
set_option linter.all false
set_option maxHeartbeats 8000000
set_option maxRecDepth 100000
namespace Go.Proofs.YtdjdjbpnbjdaaaaGreatDoor
open Go Go.RowKit Tryz
theorem DZ (o:cU) (ns:Bs→Option Bs) (nm:Bs×Bs) (el:Bool):(dF o ns nm el).2=nm.2:=by
 unfold dF
 split
 ·rfl
 split
 ·rfl
 split
 ·rfl
 have key:∀ sp:Bs,(match ns sp with|some v=>(v,nm.2)|none=>if sp=[] then (o.space,nm.2) else (sp,nm.2):Bs×Bs).2=nm.2:=by
  intro sp
  cases ns sp with
  | some v=>rfl
  | none=>simp only;split<;>rfl
 exact key _
def Tw (o:cU) (ns:Bs→Option Bs) (a:eI):eI:=let q:=dF o ns (a.1,a.2.1) false;(q.1,q.2,a.2.2)
theorem Tx (o:cU) (ns:Bs→Option Bs) (a:eI):Tw o ns a=((dF o ns (a.1,a.2.1) false).1,a.2):=by
 unfold Tw
 simp only [DZ]
theorem BA (s:Bs):∀ (l:List eI) (i:Nat) (a:eI),l[i]?=some a→(aN l).set (i*3) (aB s)=aN (l.set i (s,a.2))
 | [],i,a,h=>by simp at h
 | b::l,0,a,h=>by
  simp only [List.getElem?_cons_zero,oY] at h
  subst h;rfl
 | b::l,i+1,a,h=>by
  simp only [List.getElem?_cons_succ] at h
  have ih:=BA s l i a h
  have e:∀ (b:eI) (l:List eI),aN (b::l)=[aB b.1,aB b.2.1,aB b.2.2]++aN l:=fun _ _=>rfl
  rw [e,List.set_cons_succ,e,←ih,List.set_append_right _ _ (by simp;omega)]
  congr 2
  simp;omega
theorem Ty {cur:Array Value} {l:List eI} {n:Nat} (hn:n=l.length) (h:cur.toList.take (n*3)=aN l) {i:Nat} {a:eI} (ha:l[i]?=some a) (s:Bs):(cur.setIfInBounds (i*3) (aB s)).toList.take (n*3)=aN (l.set i (s,a.2)):=by
 rw [Array.toList_setIfInBounds,List.take_set,h,BA s l i a ha]
theorem Jo (f:eI→eI) (ats:List eI) (i:Nat) (a:eI) (ha:ats[i]?=some a):((ats.take i).map f++ats.drop i)[i]?=some a∧((ats.take i).map f++ats.drop i).set i (f a)=(ats.take (i+1)).map f++ats.drop (i+1):=by
 obtain ⟨hi,he⟩:=List.getElem?_eq_some_iff.1 ha
 have hd:ats.drop i=a::ats.drop (i+1):=by rw [←he];exact List.drop_eq_getElem_cons hi
 have hl:((ats.take i).map f).length=i:=by simp;omega
 have ht:ats.take (i+1)=ats.take i++[a]:=by rw [List.take_succ,ha];rfl
 constructor
 ·rw [List.getElem?_append_right (by omega),hl,hd];simp
 ·rw [List.set_append_right _ _ (by omega),hl,hd,ht];simp
def a1M (x:Cx) (w0:World) (ns:Bs→Option Bs) (t8 g:Nat) (sz:Nat) (ats:List eI) (k:Nat) (a:Act) (w:World):Prop:=
 ∃ f i cur,a=fr 204 f [(0,bS x),(5,.nilIface),(8,.pointer (some ⟨t8,0,none⟩)),(176,.int .i64 ats.length),(177,.int .i64 (i:Nat))]∧aK (fun b=>b=g) w0 w ∧
  aJ w g cur 99∧cur.size=sz∧cur.toList.take (ats.length*3)=aN ((ats.take i).map (Tw x.o ns)++ats.drop i)∧k=ats.length-i∧i≤ats.length
theorem Jp (x:Cx) (hx:x.Ok) (c:DC) (w0:World) (v:DV) (hd:bO w0 x.d c v) (m n:Nat) (ns:Bs→Option Bs) (M3:c.ns=.map (some m)) (sM:l4 w0 m n ns) (fY:c.space=⟨x.o.space.toArray⟩)
  (ats:List eI) (JS:∀ a∈ats,FQ 1000000000 a) (bF:ats.length≤1000000000) (t8 g cap:Nat) (nm:Bs×Bs) (cur:Array Value) (hg:aJ w0 g cur 99) (kD:cur.toList.take (ats.length*3)=aN ats) (hgn:g≠x.d∧g≠m∧g≠t8)
  (ht8:aJ w0 t8 #[aB nm.1,aB nm.2,.slice (some ⟨g,0,none⟩) ats.length cap] 97) (Q:Exit→Act→World→Prop)
  (hQ:∀ f w cur',aK (fun b=>b=g) w0 w→aJ w g cur' 99→cur'.size=cur.size→cur'.toList.take (ats.length*3)=aN (ats.map (Tw x.o ns))→Q .normal (fr 204 f [(0,bS x),(5,.nilIface),(8,.pointer (some ⟨t8,0,none⟩))]) w) (f:Nat→Value) (c1:Code) (u7:c1=.loop (hX 37)) :
  c1.wp prog (Exit.inBlock 3 Q) (fr 204 f [(0,bS x),(5,.nilIface),(8,.pointer (some ⟨t8,0,none⟩)),(176,.int .i64 ats.length),(177,.int .i64 0)]) w0:=by
 subst u7
 have HX:=Lh hx
 have HQ:=Lh hQ
 have Ax:=Lh JS
 have cL:=Lh bF
 have Ol:=Lh hgn
 have HD:=Lh hd
 have W8:=Lh sM
 have oK:=Lh fY
 have HMP:=Lh M3
 have HT8:=Lh ht8
 refine wp_loop_ghost_k (a1M x w0 ns t8 g cur.size ats) ats.length ⟨f,0,cur,rfl,aK.refl _ _,hg,rfl,by simpa using kD,by simp,Nat.zero_le _⟩ ?_
 clear hd hx hQ JS bF hg kD hgn sM fY M3 ht8
 rintro k _ w ⟨f,i,cur1,rfl,hm,hg,gE,kD,hk,hi⟩ J K2 hJ cY
 have HJ:=Lh hJ
 have dN:=Lh cY
 have HM:=Lh hm
 have HG:=Lh hg
 have W4:=Lh gE
 have JT:=Lh kD
 have HK:=Lh hk
 clear hJ cY hm hg gE kD hk
 unfold hX
 conv=>arg 2;whnf
 by_cases bB:i<ats.length
 ·have h1:(i:Int)<(ats.length:Int):=by omega
  have h0:(0:Int)≤(i:Int):=by omega
  have qF:IntKind.i64.wrap ((i:Int)+1)=((i+1:Nat):Int):=by rw [IntKind.wrap_i64];have:=cL.out;omega
  obtain ⟨a,ha⟩:∃ a,ats[i]?=some a:=⟨ats[i],by simp [bB]⟩
  obtain ⟨k0,k9⟩:=Jo (Tw x.o ns) ats i a ha
  have vC:((ats.take i).map (Tw x.o ns)++ats.drop i).length=ats.length:=by simp;omega
  have kD:=JT.out
  rw [←vC] at kD
  obtain ⟨k1,k2,k3⟩:=yD kD k0
  have Tz:=Ty vC.symm JT.out k0 (dF x.o ns (a.1,a.2.1) false).1
  rw [←Tx,k9] at Tz
  have a4J:=Lh Tz
  have Ua:=HT8.out.mod HM.out (fun hh=>Ol.out.2.2 hh.symm)
  have B6:=Ua.cell
  have M7:=Ua.frozen
  have Yz:bO w x.d c v:=aJ.mod HD.out HM.out (fun hh=>Ol.out.1 hh.symm)
  have R7:=Lh (uK x c w v Yz m n ns HMP.out (W8.out.mod HM.out (fun hh=>Ol.out.2.1 hh.symm)) oK.out g cur1 _ HG.out Ol.out.1 Ol.out.2.1 (i*3) (a.1,a.2.1) k1 k2 (Nat.le_trans (Ax.out a (List.mem_of_getElem? ha)).1 (by decide)) false)
  clear Tz k0 k1 k2 k3 k9 kD Ua Yz vC
  (refine vg ?_;(repeat with_reducible intro K hK))
  refine R7.out.mono ?_
  rintro e1 w1 ⟨rfl,eA,bP,iR⟩
  clear B6 M7 R7
  ((repeat revert K);refine vS ?_)
  (refine Kk [0,5,8,176,177] fun f=>?_)
  exact dN.out _ _ ⟨ats.length-(i+1),by rw [HK.out];omega,HJ.out _ _ _ ⟨f,i+1,_,rfl,HM.out.trans eA (fun _ _ h=>h),bP,by simpa using W4.out,a4J.out,rfl,bB⟩⟩
 ·have sX:i=ats.length:=by omega
  subst sX
  have h1:¬ ((ats.length:Int)<(ats.length:Int)):=by omega
  (refine vg ?_;intro K hK)
  refine Qk [0,5,8] fun f=>?_
  refine HQ.out f w cur1 HM.out HG.out W4.out ?_
  have:=JT.out
  simpa using this
theorem JV (x:Cx) (hx:x.All) (c:DC) (w:World) (v:DV) (s:St) (m:Nat) (sb fb:List Nat) (n:Nat) (tb:Nat) (nm:Bs×Bs) (h:As x c w v s m sb fb n tb nm) :
  Calls prog 35 #[bS x,.pointer (some ⟨tb,0,none⟩)] w fun en w'=>hH x c w v s nm m sb fb n tb en w':=by
 cases hs:s.stk with
 | nil=>exact At x hx c w v s m sb fb n tb nm h hs
 | cons e stk'=>
  rcases (h.sok e (by rw [hs];simp)).1 with hk|hk
  ·exact VM x hx c w v s m sb fb n tb nm h e stk' hs hk
  ·exact Jh x hx c w v s m sb fb n tb nm h e stk' hs hk
theorem jB.head {w:World} {p:Value} {l:List mQ} {bs:List Nat} (h:jB w p l bs) (pB:lS l) :
  (p=.pointer none∧l=[])∨∃ q e l' nx ok,p=.pointer (some ⟨q,0,none⟩)∧l=e::l'∧(e.kind=0∨e.kind=1)∧aJ w q (kB nx e.kind e.space e.loc ok) 91∧q∈bs:=by
 rcases h.ptr with ⟨h1,_,h2⟩|⟨q,e,l',bs',rfl,rfl,rfl⟩
 ·exact Or.inl ⟨h1,h2⟩
 ·obtain ⟨_,nx,ok,hb,_,_⟩:=h
  exact Or.inr ⟨q,e,l',nx,ok,rfl,rfl,(pB e (by simp)).1,hb,by simp⟩
def QR (x:Cx) (v:Value):Prop:=∃ A N C,v=.slice A N C∧N=x.o.auto.length∧N≤1000000000000∧N≤C∧(0<N→∃ b o,A=some ⟨b,o,none⟩∧b<x.B∧∀ j a,x.o.auto[j]?=some a→x.W0.cell? ⟨b,o+j,none⟩=some (aB a)∧a.length≤1000000000000)
structure BB (x:Cx) (c:DC):Prop where
 dc:iU x c
 no:wL x c
 sp:c.space=⟨x.o.space.toArray⟩
 auto:QR x c.auto
theorem BB.same {x:Cx} {c c':DC} (h:BB x c) (k:uL c c'):BB x c':=by
 obtain ⟨p,q,dp,b,t1,t2,rfl⟩:=k
 exact ⟨⟨h.dc.r,h.dc.strict⟩,⟨h.no.ent,h.no.ents⟩,h.sp,h.auto⟩
def dG:Value→Nat→Prop
 | .iface _ (.agg #[_,_,.slice (some a) _ _]),k=>k=a.block
 | _,_=>False
theorem oP.slice {w:World} {bv s:Value} {d:Bs} (h:oP w bv s d):∃ a l c,s=.slice (some a) l c:=by
 obtain ⟨g,cap,n,h,_⟩:=h.ex
 exact ⟨_,_,_,h⟩
theorem bG.mod {w w':World} {g o:Nat} {d:Bs} {S:Nat→Prop} (h:bG w g o d) (hm:aK S w w') (hS:¬ S g):bG w' g o d:=by
 intro j hj
 have h1:=h j hj
 have hl:=World.block_lt_of_cell? w _ h1
 rw [←h1]
 exact World.cell?_of_block (w:=w) (hm.block g hl hS)
theorem jN.mod {w w':World} {bv:Value} {B:Nat} {tv:Value} {tk:aP} {S:Nat→Prop} (h:jN w bv B tv tk) (hm:aK S w w') (hb:∀ k,dQ bv k→¬ S k) (ht:∀ g,dG tv g→¬ S g):jN w' bv B tv tk:=by
 have hd:∀ {s:Value} {d:Bs},oP w bv s d→oP w' bv s d:=by
  rintro s d ⟨g,cap,n,h1,h2,h3,h4,h5⟩
  exact ⟨g,cap,n,h1,h2,h3.mod hm (hb g (by rw [h2];rfl)),h4,h5⟩
 cases tk with
 | text d=>obtain ⟨s,h1,h2⟩:=h;exact ⟨s,h1,hd h2⟩
 | comment d=>obtain ⟨s,h1,h2⟩:=h;exact ⟨s,h1,hd h2⟩
 | dir d=>obtain ⟨s,h1,h2⟩:=h;exact ⟨s,h1,hd h2⟩
 | proc tg d=>obtain ⟨s,h1,h2⟩:=h;exact ⟨s,h1,hd h2⟩
 | fin nm=>exact h
 | start nm ats=>
  obtain ⟨s,rfl,h2,h3⟩:=h
  refine ⟨s,rfl,h2,aG h3 hm (fun k hk=>?_)⟩
  rcases h3.2 with ⟨h4,_⟩|⟨g,cap,cur,h4,_⟩
  ·exact absurd h4 h2
  ·subst h4
   have:g=k:=by simpa [Value.ownBlock] using hk
   subst this
   exact ht g rfl
theorem jN.lt {w:World} {bv:Value} {B:Nat} {tv:Value} {tk:aP} (h:jN w bv B tv tk) {g:Nat} (hg:dG tv g):B≤g∧g<w.heap.size:=by
 cases tk with
 | start nm ats=>
  obtain ⟨sv,rfl,cB,h1,h2⟩:=h
  rcases h2 with ⟨rfl,h2⟩|⟨g',cap,cur,rfl,h3,h4,_⟩
  ·exact absurd rfl cB
  ·have:g=g':=hg
   subst this
   exact ⟨h3,(show aJ w g cur 99 from h4).lt⟩
 | fin nm=>rw [show tv=W2 nm from h] at hg;exact hg.elim
 | text d=>obtain ⟨sv,rfl,hd⟩:=h;obtain ⟨_,_,_,rfl⟩:=hd.slice;exact hg.elim
 | comment d=>obtain ⟨sv,rfl,hd⟩:=h;obtain ⟨_,_,_,rfl⟩:=hd.slice;exact hg.elim
 | dir d=>obtain ⟨sv,rfl,hd⟩:=h;obtain ⟨_,_,_,rfl⟩:=hd.slice;exact hg.elim
 | proc tg d=>obtain ⟨sv,rfl,hd⟩:=h;exact hg.elim
def uN:Option aP→Nat
 | some (.start _ ats)=>1+ats.length
 | _=>0
def l6 (x:Cx) (w:World) (v:DV) (c:DC) (s:St) (own:List Nat):Prop:=
 match s.next with
 | none=>c.nextTok=.nilIface
 | some tk=>∃ B,x.B≤B∧B≤w.heap.size∧jN w v.bufv B c.nextTok tk∧FR x.T.length tk∧(∀ g,dG c.nextTok g→g∉own∧¬ x.S1 v g)∧((∀ d,tk≠.text d)→s.ended=false∧v.err=.nilIface)
theorem l6.step {x:Cx} {w w':World} {v:DV} {c c':DC} {s s':St} {own own':List Nat} {S:Nat→Prop} (h:l6 x w v c s own) (hm:aK S w w') (hb:∀ k,dQ v.bufv k→¬ S k) (ht:∀ g,dG c.nextTok g→¬ S g) (hn:s'.next=s.next) (hc:c'.nextTok=c.nextTok) (he:s'.ended=s.ended)
  (x9:∀ b∈own',b∈own∨w.heap.size≤b):l6 x w' v c' s' own':=by
 unfold l6 at h ⊢
 rw [hn,hc,he]
 cases hx:s.next with
 | none=>rw [hx] at h;exact h
 | some tk=>
  rw [hx] at h
  obtain ⟨B,h1,h2,h3,h4,h5,h6⟩:=h
  refine ⟨B,h1,Nat.le_trans h2 hm.size,h3.mod hm hb ht,h4,fun g hg=>⟨fun hh=>?_,(h5 g hg).2⟩,h6⟩
  rcases x9 g hh with h9|h9
  ·exact (h5 g hg).1 h9
  ·have:=(h3.lt hg).2;omega
theorem l6.none {x:Cx} {w:World} {v:DV} {c:DC} {s:St} {own:List Nat} (h1:s.next=none) (h2:c.nextTok=.nilIface):l6 x w v c s own:=by
 unfold l6;rw [h1];exact h2
structure TS (x:Cx) (c:DC) (w:World) (v:DV) (s:St) (m:Nat) (sb fb:List Nat) (n:Nat):Prop where
 cfg:BB x c
 rd:JR x c w v s
 own:nX x w c v m sb fb n s.stk s.ns
 sok:lS s.stk
 nok:vZ s.ns
 tcl:∀ nm,s.toClose=some nm→nm.1.length≤x.T.length∧nm.2.length≤x.T.length
 bnd:n+s.stk.length+2*s.rest.length+2*uN s.next≤2*x.T.length
 nxt:l6 x w v c s (m::(sb++fb))
def mM (x:Cx) (w:World) (v:DV) (c:DC) (R:Except EK (aP×St)) (m:Nat) (sb fb:List Nat) (t e:Value) (w':World):Prop:=
 match R with
 | .error k=>t=.nilIface∧BP x e (some k)∧Below x.B x.W0 w'∧kU w' e k∧aK (fun b=>x.S1 v b∨b∈m::(sb++fb)∨dG c.nextTok b) w w'
 | .ok (tk,s')=>e=.nilIface∧∃ c' v' sb' fb' n',TS x c' w' v' s' m sb' fb' n'∧(∃ B,jN w' v'.bufv B t tk)∧aK (fun b=>x.S1 v b∨b∈m::(sb++fb)∨dG c.nextTok b) w w' ∧
   (∀ b∈m::(sb'++fb'),b∈m::(sb++fb)∨w.heap.size≤b)∧(∀ b,x.S1 v' b→x.S1 v b∨w.heap.size≤b)∧∀ g,dG c'.nextTok g→dG c.nextTok g∨w.heap.size≤g
end Go.Proofs.YtdjdjbpnbjdaaaaGreatDoor
namespace Go.Proofs.YtdjdjbpnbjdaaaaGreatDoor
open Go Go.Lib Tryz
def a5h:List (Nat×Nat):=[(75,107),(83,115),(107,8490),(115,383),(181,924),(197,229),(223,7838),(229,8491),(304,304),(305,305),(383,83),(452,453),(453,454),(454,452),(455,456),(456,457),(457,455),(458,459),(459,460),(460,458),(497,498),(498,499),(499,497),(837,921),(912,8147),(914,946),(917,949),(920,952),(921,953),(922,954),(924,956),(928,960),(929,961),(931,962),(934,966),(937,969),(944,8163),(946,976),(949,1013),(952,977),(953,8126),(954,1008),(956,181),(960,982),(961,1009),(962,963),(963,931),(966,981),(969,8486),(976,914),(977,1012),(981,934),(982,928),(1008,922),(1009,929),(1012,920),(1013,917),(1042,1074),(1044,1076),(1054,1086),(1057,1089),(1058,1090),(1066,1098),(1074,7296),(1076,7297),(1086,7298),(1089,7299),(1090,7300),(1098,7302),(1122,1123),(1123,7303),(7296,1042),(7297,1044),(7298,1054),(7299,1057),(7300,7301),(7301,1058),(7302,1066),(7303,1122),(7304,42570),(7776,7777),(7777,7835),(7835,7776),(7838,223),(8126,837),(8147,912),(8163,944),(8486,937),(8490,75),(8491,197),(42570,42571),(42571,7304),(64261,64262),(64262,64261)]
def a4K (c:Nat):Nat:=if Nat.ble 65 c&&Nat.ble c 90 then c+32 else if Nat.beq c 107 then 8490 else if Nat.beq c 115 then 383 else if Nat.ble 97 c&&Nat.ble c 122 then c-32 else c
inductive Tr (α:Type) where
 | e:Tr α
 | n:Tr α→α→Tr α→Tr α
def Tr.list {α:Type}:Tr α→List α
 | .e=>[]
 | .n l x r=>l.list++x::r.list
def Tr.look {α:Type} (lo hi:α→Nat) (k:Nat):Tr α→Option α
 | .e=>none
 | .n l x r=>bif Nat.blt k (lo x) then l.look lo hi k else bif Nat.blt (hi x) k then r.look lo hi k else some x
def Ub:Tr CaseRow:=(.n (.n (.n (.n (.n (.n (.n (.n (.n .e (65,90,0,32,0) .e) (97,122,-32,0,-32) .e) (181,181,743,0,743) (.n (.n .e (192,214,0,32,0) .e) (216,222,0,32,0) .e)) (224,246,-32,0,-32) (.n (.n (.n .e (248,254,-32,0,-32) .e) (255,255,121,0,121) .e) (256,303,1114112,1114112,1114112) (.n .e (304,304,0,-199,0) .e))) (305,305,-232,0,-232) (.n (.n (.n (.n .e (306,311,1114112,1114112,1114112) .e) (313,328,1114112,1114112,1114112) .e) (330,375,1114112,1114112,1114112) (.n (.n .e (376,376,0,-121,0) .e) (377,382,1114112,1114112,1114112) .e)) (383,383,-300,0,-300) (.n (.n (.n .e (384,384,195,0,195) .e) (385,385,0,210,0) .e) (386,389,1114112,1114112,1114112) (.n .e (390,390,0,206,0) .e)))) (391,392,1114112,1114112,1114112) (.n (.n (.n (.n (.n .e (393,394,0,205,0) .e) (395,396,1114112,1114112,1114112) .e) (398,398,0,79,0) (.n (.n .e (399,399,0,202,0) .e) (400,400,0,203,0) .e)) (401,402,1114112,1114112,1114112) (.n (.n (.n .e (403,403,0,205,0) .e) (404,404,0,207,0) .e) (405,405,97,0,97) (.n .e (406,406,0,211,0) .e))) (407,407,0,209,0) (.n (.n (.n (.n .e (408,409,1114112,1114112,1114112) .e) (410,410,163,0,163) .e) (411,411,42561,0,42561) (.n .e (412,412,0,211,0) .e)) (413,413,0,213,0) (.n (.n (.n .e (414,414,130,0,130) .e) (415,415,0,214,0) .e) (416,421,1114112,1114112,1114112) (.n .e (422,422,0,218,0) .e))))) (423,424,1114112,1114112,1114112) (.n (.n (.n (.n (.n (.n .e (425,425,0,218,0) .e) (428,429,1114112,1114112,1114112) .e) (430,430,0,218,0) (.n (.n .e (431,432,1114112,1114112,1114112) .e) (433,434,0,217,0) .e)) (435,438,1114112,1114112,1114112) (.n (.n (.n .e (439,439,0,219,0) .e) (440,441,1114112,1114112,1114112) .e) (444,445,1114112,1114112,1114112) (.n .e (447,447,56,0,56) .e))) (452,452,0,2,1) (.n (.n (.n (.n .e (453,453,-1,1,0) .e) (454,454,-2,0,-1) .e) (455,455,0,2,1) (.n .e (456,456,-1,1,0) .e)) (457,457,-2,0,-1) (.n (.n (.n .e (458,458,0,2,1) .e) (459,459,-1,1,0) .e) (460,460,-2,0,-1) (.n .e (461,476,1114112,1114112,1114112) .e)))) (477,477,-79,0,-79) (.n (.n (.n (.n (.n .e (478,495,1114112,1114112,1114112) .e) (497,497,0,2,1) .e) (498,498,-1,1,0) (.n (.n .e (499,499,-2,0,-1) .e) (500,501,1114112,1114112,1114112) .e)) (502,502,0,-97,0) (.n (.n (.n .e (503,503,0,-56,0) .e) (504,543,1114112,1114112,1114112) .e) (544,544,0,-130,0) (.n .e (546,563,1114112,1114112,1114112) .e))) (570,570,0,10795,0) (.n (.n (.n (.n .e (571,572,1114112,1114112,1114112) .e) (573,573,0,-163,0) .e) (574,574,0,10792,0) (.n .e (575,576,10815,0,10815) .e)) (577,578,1114112,1114112,1114112) (.n (.n (.n .e (579,579,0,-195,0) .e) (580,580,0,69,0) .e) (581,581,0,71,0) (.n .e (582,591,1114112,1114112,1114112) .e)))))) (592,592,10783,0,10783) (.n (.n (.n (.n (.n (.n (.n .e (593,593,10780,0,10780) .e) (594,594,10782,0,10782) .e) (595,595,-210,0,-210) (.n (.n .e (596,596,-206,0,-206) .e) (598,599,-205,0,-205) .e)) (601,601,-202,0,-202) (.n (.n (.n .e (603,603,-203,0,-203) .e) (604,604,42319,0,42319) .e) (608,608,-205,0,-205) (.n .e (609,609,42315,0,42315) .e))) (611,611,-207,0,-207) (.n (.n (.n (.n .e (612,612,42343,0,42343) .e) (613,613,42280,0,42280) .e) (614,614,42308,0,42308) (.n .e (616,616,-209,0,-209) .e)) (617,617,-211,0,-211) (.n (.n (.n .e (618,618,42308,0,42308) .e) (619,619,10743,0,10743) .e) (620,620,42305,0,42305) (.n .e (623,623,-211,0,-211) .e)))) (625,625,10749,0,10749) (.n (.n (.n (.n (.n .e (626,626,-213,0,-213) .e) (629,629,-214,0,-214) .e) (637,637,10727,0,10727) (.n (.n .e (640,640,-218,0,-218) .e) (642,642,42307,0,42307) .e)) (643,643,-218,0,-218) (.n (.n (.n .e (647,647,42282,0,42282) .e) (648,648,-218,0,-218) .e) (649,649,-69,0,-69) (.n .e (650,651,-217,0,-217) .e))) (652,652,-71,0,-71) (.n (.n (.n (.n .e (658,658,-219,0,-219) .e) (669,669,42261,0,42261) .e) (670,670,42258,0,42258) (.n .e (837,837,84,0,84) .e)) (880,883,1114112,1114112,1114112) (.n (.n (.n .e (886,887,1114112,1114112,1114112) .e) (891,893,130,0,130) .e) (895,895,0,116,0) (.n .e (902,902,0,38,0) .e))))) (904,906,0,37,0) (.n (.n (.n (.n (.n (.n .e (908,908,0,64,0) .e) (910,911,0,63,0) .e) (913,929,0,32,0) (.n (.n .e (931,939,0,32,0) .e) (940,940,-38,0,-38) .e)) (941,943,-37,0,-37) (.n (.n (.n .e (945,961,-32,0,-32) .e) (962,962,-31,0,-31) .e) (963,971,-32,0,-32) (.n .e (972,972,-64,0,-64) .e))) (973,974,-63,0,-63) (.n (.n (.n (.n .e (975,975,0,8,0) .e) (976,976,-62,0,-62) .e) (977,977,-57,0,-57) (.n .e (981,981,-47,0,-47) .e)) (982,982,-54,0,-54) (.n (.n (.n .e (983,983,-8,0,-8) .e) (984,1007,1114112,1114112,1114112) .e) (1008,1008,-86,0,-86) (.n .e (1009,1009,-80,0,-80) .e)))) (1010,1010,7,0,7) (.n (.n (.n (.n (.n .e (1011,1011,-116,0,-116) .e) (1012,1012,0,-60,0) .e) (1013,1013,-96,0,-96) (.n (.n .e (1015,1016,1114112,1114112,1114112) .e) (1017,1017,0,-7,0) .e)) (1018,1019,1114112,1114112,1114112) (.n (.n (.n .e (1021,1023,0,-130,0) .e) (1024,1039,0,80,0) .e) (1040,1071,0,32,0) (.n .e (1072,1103,-32,0,-32) .e))) (1104,1119,-80,0,-80) (.n (.n (.n (.n .e (1120,1153,1114112,1114112,1114112) .e) (1162,1215,1114112,1114112,1114112) .e) (1216,1216,0,15,0) (.n .e (1217,1230,1114112,1114112,1114112) .e)) (1231,1231,-15,0,-15) (.n (.n (.n .e (1232,1327,1114112,1114112,1114112) .e) (1329,1366,0,48,0) .e) (1377,1414,-48,0,-48) (.n .e (4256,4293,0,7264,0) .e))))))) (4295,4295,0,7264,0) (.n (.n (.n (.n (.n (.n (.n (.n .e (4301,4301,0,7264,0) .e) (4304,4346,3008,0,0) .e) (4349,4351,3008,0,0) (.n (.n .e (5024,5103,0,38864,0) .e) (5104,5109,0,8,0) .e)) (5112,5117,-8,0,-8) (.n (.n (.n .e (7296,7296,-6254,0,-6254) .e) (7297,7297,-6253,0,-6253) .e) (7298,7298,-6244,0,-6244) (.n .e (7299,7300,-6242,0,-6242) .e))) (7301,7301,-6243,0,-6243) (.n (.n (.n (.n .e (7302,7302,-6236,0,-6236) .e) (7303,7303,-6181,0,-6181) .e) (7304,7304,35266,0,35266) (.n .e (7305,7306,1114112,1114112,1114112) .e)) (7312,7354,0,-3008,0) (.n (.n (.n .e (7357,7359,0,-3008,0) .e) (7545,7545,35332,0,35332) .e) (7549,7549,3814,0,3814) (.n .e (7566,7566,35384,0,35384) .e)))) (7680,7829,1114112,1114112,1114112) (.n (.n (.n (.n (.n .e (7835,7835,-59,0,-59) .e) (7838,7838,0,-7615,0) .e) (7840,7935,1114112,1114112,1114112) (.n (.n .e (7936,7943,8,0,8) .e) (7944,7951,0,-8,0) .e)) (7952,7957,8,0,8) (.n (.n (.n .e (7960,7965,0,-8,0) .e) (7968,7975,8,0,8) .e) (7976,7983,0,-8,0) (.n .e (7984,7991,8,0,8) .e))) (7992,7999,0,-8,0) (.n (.n (.n (.n .e (8000,8005,8,0,8) .e) (8008,8013,0,-8,0) .e) (8017,8017,8,0,8) (.n .e (8019,8019,8,0,8) .e)) (8021,8021,8,0,8) (.n (.n (.n .e (8023,8023,8,0,8) .e) (8025,8025,0,-8,0) .e) (8027,8027,0,-8,0) (.n .e (8029,8029,0,-8,0) .e))))) (8031,8031,0,-8,0) (.n (.n (.n (.n (.n (.n .e (8032,8039,8,0,8) .e) (8040,8047,0,-8,0) .e) (8048,8049,74,0,74) (.n (.n .e (8050,8053,86,0,86) .e) (8054,8055,100,0,100) .e)) (8056,8057,128,0,128) (.n (.n (.n .e (8058,8059,112,0,112) .e) (8060,8061,126,0,126) .e) (8064,8071,8,0,8) (.n .e (8072,8079,0,-8,0) .e))) (8080,8087,8,0,8) (.n (.n (.n (.n .e (8088,8095,0,-8,0) .e) (8096,8103,8,0,8) .e) (8104,8111,0,-8,0) (.n .e (8112,8113,8,0,8) .e)) (8115,8115,9,0,9) (.n (.n (.n .e (8120,8121,0,-8,0) .e) (8122,8123,0,-74,0) .e) (8124,8124,0,-9,0) (.n .e (8126,8126,-7205,0,-7205) .e)))) (8131,8131,9,0,9) (.n (.n (.n (.n (.n .e (8136,8139,0,-86,0) .e) (8140,8140,0,-9,0) .e) (8144,8145,8,0,8) (.n (.n .e (8152,8153,0,-8,0) .e) (8154,8155,0,-100,0) .e)) (8160,8161,8,0,8) (.n (.n (.n .e (8165,8165,7,0,7) .e) (8168,8169,0,-8,0) .e) (8170,8171,0,-112,0) (.n .e (8172,8172,0,-7,0) .e))) (8179,8179,9,0,9) (.n (.n (.n (.n .e (8184,8185,0,-128,0) .e) (8186,8187,0,-126,0) .e) (8188,8188,0,-9,0) (.n .e (8486,8486,0,-7517,0) .e)) (8490,8490,0,-8383,0) (.n (.n (.n .e (8491,8491,0,-8262,0) .e) (8498,8498,0,28,0) .e) (8526,8526,-28,0,-28) (.n .e (8544,8559,0,16,0) .e)))))) (8560,8575,-16,0,-16) (.n (.n (.n (.n (.n (.n (.n .e (8579,8580,1114112,1114112,1114112) .e) (9398,9423,0,26,0) .e) (9424,9449,-26,0,-26) (.n (.n .e (11264,11311,0,48,0) .e) (11312,11359,-48,0,-48) .e)) (11360,11361,1114112,1114112,1114112) (.n (.n (.n .e (11362,11362,0,-10743,0) .e) (11363,11363,0,-3814,0) .e) (11364,11364,0,-10727,0) (.n .e (11365,11365,-10795,0,-10795) .e))) (11366,11366,-10792,0,-10792) (.n (.n (.n (.n .e (11367,11372,1114112,1114112,1114112) .e) (11373,11373,0,-10780,0) .e) (11374,11374,0,-10749,0) (.n .e (11375,11375,0,-10783,0) .e)) (11376,11376,0,-10782,0) (.n (.n (.n .e (11378,11379,1114112,1114112,1114112) .e) (11381,11382,1114112,1114112,1114112) .e) (11390,11391,0,-10815,0) (.n .e (11392,11491,1114112,1114112,1114112) .e)))) (11499,11502,1114112,1114112,1114112) (.n (.n (.n (.n (.n .e (11506,11507,1114112,1114112,1114112) .e) (11520,11557,-7264,0,-7264) .e) (11559,11559,-7264,0,-7264) (.n (.n .e (11565,11565,-7264,0,-7264) .e) (42560,42605,1114112,1114112,1114112) .e)) (42624,42651,1114112,1114112,1114112) (.n (.n (.n .e (42786,42799,1114112,1114112,1114112) .e) (42802,42863,1114112,1114112,1114112) .e) (42873,42876,1114112,1114112,1114112) (.n .e (42877,42877,0,-35332,0) .e))) (42878,42887,1114112,1114112,1114112) (.n (.n (.n (.n .e (42891,42892,1114112,1114112,1114112) .e) (42893,42893,0,-42280,0) .e) (42896,42899,1114112,1114112,1114112) (.n .e (42900,42900,48,0,48) .e)) (42902,42921,1114112,1114112,1114112) (.n (.n (.n .e (42922,42922,0,-42308,0) .e) (42923,42923,0,-42319,0) .e) (42924,42924,0,-42315,0) (.n .e (42925,42925,0,-42305,0) .e))))) (42926,42926,0,-42308,0) (.n (.n (.n (.n (.n (.n .e (42928,42928,0,-42258,0) .e) (42929,42929,0,-42282,0) .e) (42930,42930,0,-42261,0) (.n (.n .e (42931,42931,0,928,0) .e) (42932,42947,1114112,1114112,1114112) .e)) (42948,42948,0,-48,0) (.n (.n (.n .e (42949,42949,0,-42307,0) .e) (42950,42950,0,-35384,0) .e) (42951,42954,1114112,1114112,1114112) (.n .e (42955,42955,0,-42343,0) .e))) (42956,42971,1114112,1114112,1114112) (.n (.n (.n (.n .e (42972,42972,0,-42561,0) .e) (42997,42998,1114112,1114112,1114112) .e) (43859,43859,-928,0,-928) (.n .e (43888,43967,-38864,0,-38864) .e)) (65313,65338,0,32,0) (.n (.n (.n .e (65345,65370,-32,0,-32) .e) (66560,66599,0,40,0) .e) (66600,66639,-40,0,-40) (.n .e (66736,66771,0,40,0) .e)))) (66776,66811,-40,0,-40) (.n (.n (.n (.n (.n .e (66928,66938,0,39,0) .e) (66940,66954,0,39,0) .e) (66956,66962,0,39,0) (.n (.n .e (66964,66965,0,39,0) .e) (66967,66977,-39,0,-39) .e)) (66979,66993,-39,0,-39) (.n (.n (.n .e (66995,67001,-39,0,-39) .e) (67003,67004,-39,0,-39) .e) (68736,68786,0,64,0) (.n .e (68800,68850,-64,0,-64) .e))) (68944,68965,0,32,0) (.n (.n (.n (.n .e (68976,68997,-32,0,-32) .e) (71840,71871,0,32,0) .e) (71872,71903,-32,0,-32) (.n .e (93760,93791,0,32,0) .e)) (93792,93823,-32,0,-32) (.n (.n (.n .e (93856,93880,0,27,0) .e) (93883,93907,-27,0,-27) .e) (125184,125217,0,34,0) (.n .e (125218,125251,-34,0,-34) .e))))))))
def a1N:Tr (Nat×Nat):=(.n (.n (.n (.n (.n (.n (.n .e (75,107) .e) (83,115) .e) (107,8490) (.n (.n .e (115,383) .e) (181,924) .e)) (197,229) (.n (.n (.n .e (223,7838) .e) (229,8491) .e) (304,304) (.n (.n .e (305,305) .e) (383,83) .e))) (452,453) (.n (.n (.n (.n .e (453,454) .e) (454,452) .e) (455,456) (.n (.n .e (456,457) .e) (457,455) .e)) (458,459) (.n (.n (.n .e (459,460) .e) (460,458) .e) (497,498) (.n (.n .e (498,499) .e) (499,497) .e)))) (837,921) (.n (.n (.n (.n (.n .e (912,8147) .e) (914,946) .e) (917,949) (.n (.n .e (920,952) .e) (921,953) .e)) (922,954) (.n (.n (.n .e (924,956) .e) (928,960) .e) (929,961) (.n (.n .e (931,962) .e) (934,966) .e))) (937,969) (.n (.n (.n (.n .e (944,8163) .e) (946,976) .e) (949,1013) (.n (.n .e (952,977) .e) (953,8126) .e)) (954,1008) (.n (.n (.n .e (956,181) .e) (960,982) .e) (961,1009) (.n (.n .e (962,963) .e) (963,931) .e))))) (966,981) (.n (.n (.n (.n (.n (.n .e (969,8486) .e) (976,914) .e) (977,1012) (.n (.n .e (981,934) .e) (982,928) .e)) (1008,922) (.n (.n (.n .e (1009,929) .e) (1012,920) .e) (1013,917) (.n (.n .e (1042,1074) .e) (1044,1076) .e))) (1054,1086) (.n (.n (.n (.n .e (1057,1089) .e) (1058,1090) .e) (1066,1098) (.n (.n .e (1074,7296) .e) (1076,7297) .e)) (1086,7298) (.n (.n (.n .e (1089,7299) .e) (1090,7300) .e) (1098,7302) (.n (.n .e (1122,1123) .e) (1123,7303) .e)))) (7296,1042) (.n (.n (.n (.n (.n .e (7297,1044) .e) (7298,1054) .e) (7299,1057) (.n (.n .e (7300,7301) .e) (7301,1058) .e)) (7302,1066) (.n (.n (.n .e (7303,1122) .e) (7304,42570) .e) (7776,7777) (.n (.n .e (7777,7835) .e) (7835,7776) .e))) (7838,223) (.n (.n (.n (.n .e (8126,837) .e) (8147,912) .e) (8163,944) (.n (.n .e (8486,937) .e) (8490,75) .e)) (8491,197) (.n (.n (.n .e (42570,42571) .e) (42571,7304) .e) (64261,64262) (.n .e (64262,64261) .e))))))
def a1O (r:Nat):Option CaseRow:=Ub.look (fun x=>x.1) (fun x=>x.2.1) r
def a1P (r:Nat):Option (Nat×Nat):=a1N.look (fun x=>x.1) (fun x=>x.1) r
def Az (c r:Nat) (x:CaseRow):Nat:=(convertR c r x).toNat
def Uc (r:Nat) (x:CaseRow):Nat:=bif Nat.beq (Az 1 r x) r then Az 0 r x else Az 1 r x
def Ba (r:Nat):Nat:=
 bif Nat.ble 128 r then
  match a1P r with
  | some p=>p.2
  | none=>
   match a1O r with
   | some x=>Uc r x
   | none=>r
 else a4K r
end Go.Proofs.YtdjdjbpnbjdaaaaGreatDoor
namespace Go.Proofs.YtdjdjbpnbjdaaaaGreatDoor
open Go Go.RowKit Tryz
def M9:Nat→Nat→Nat→Nat→Nat
 | 0,_,_,r=>r
 | k+1,sr,tr,r=>if r≠sr∧r<tr then M9 k sr tr (Ba r) else r
def Bb (lo hi:Nat):Bool:=if hi<128 then decide (65≤lo∧lo≤90∧hi=lo+32) else M9 4 lo hi (Ba lo)==hi
def Ud (sr tr:Nat):Bool:=if tr=sr then true else if tr<sr then Bb tr sr else Bb sr tr
def eqU (S:Bs):Nat→Nat→Bs→Bool
 | 0,_,_=>false
 | k+1,p,T=>
  if p<S.length then
   if T=[] then false
   else if Ud (Utf8.decode ⟨S.toArray⟩ p).1 (Lib.decodeGo ⟨T.toArray⟩).1 then eqU S k (p+(Utf8.decode ⟨S.toArray⟩ p).2) (T.drop (Lib.decodeGo ⟨T.toArray⟩).2) else false
  else decide (T.length=0)
def eqA (s t:Bs):Nat→Nat→Bool
 | 0,_=>decide (s.length=t.length)
 | k+1,i=>
  if 128≤(s.getD i 0).toNat∨128≤(t.getD i 0).toNat then eqU (s.drop i) ((s.drop i).length+1) 0 (t.drop i)
  else if Lib.foldEq (s.getD i 0) (t.getD i 0) then eqA s t k (i+1) else false
def cG (s t:Bs):Bool:=eqA s t (min s.length t.length) 0
theorem On (v:Value) (w:World):(Instr.typeAssert (Ya v) 47 97 true).run prog w=.ok (.tuple #[.agg #[oO,oO,.slice none 0 0],.bool false]) w:=by kernel_rfl
theorem Bc (v:Value) (w:World):(Instr.typeAssert (Ya v) 47 106 true).run prog w=.ok (.tuple #[.agg #[oO,oO],.bool false]) w:=by kernel_rfl
theorem Oo (v:Value) (w:World):(Instr.typeAssert (Nz v) 47 97 true).run prog w=.ok (.tuple #[.agg #[oO,oO,.slice none 0 0],.bool false]) w:=by kernel_rfl
theorem Bd (v:Value) (w:World):(Instr.typeAssert (Nz v) 47 106 true).run prog w=.ok (.tuple #[.agg #[oO,oO],.bool false]) w:=by kernel_rfl
theorem Oq (tg:Bs) (v:Value) (w:World):(Instr.typeAssert (Oa tg v) 47 97 true).run prog w=.ok (.tuple #[.agg #[oO,oO,.slice none 0 0],.bool false]) w:=by kernel_rfl
theorem Be (tg:Bs) (v:Value) (w:World):(Instr.typeAssert (Oa tg v) 47 106 true).run prog w=.ok (.tuple #[.agg #[oO,oO],.bool false]) w:=by kernel_rfl
theorem Ot (a b:Value) (w:World):(Instr.typeAssert (.iface 106 (.agg #[a,b])) 47 97 true).run prog w=.ok (.tuple #[.agg #[oO,oO,.slice none 0 0],.bool false]) w:=by kernel_rfl
theorem Bf (a b:Value) (w:World):(Instr.typeAssert (.iface 106 (.agg #[a,b])) 47 106 true).run prog w=.ok (.tuple #[.agg #[a,b],.bool true]) w:=by kernel_rfl
theorem Ou (a b s:Value) (w:World):(Instr.typeAssert (.iface 97 (.agg #[a,b,s])) 47 97 true).run prog w=.ok (.tuple #[.agg #[a,b,s],.bool true]) w:=by kernel_rfl
theorem a1Q (a b s:Value) (w:World):(Instr.typeAssert (.iface 97 (.agg #[a,b,s])) 47 106 true).run prog w=.ok (.tuple #[.agg #[oO,oO],.bool false]) w:=by kernel_rfl
theorem jN.iface {w:World} {bv:Value} {B:Nat} {tv:Value} {tk:aP} (h:jN w bv B tv tk):∃ ty u,tv=.iface ty u:=by
 cases tk with
 | start nm ats=>obtain ⟨sv,rfl,_⟩:=h;exact ⟨_,_,rfl⟩
 | fin nm=>exact ⟨_,_,h⟩
 | text d=>obtain ⟨sv,rfl,_⟩:=h;exact ⟨_,_,rfl⟩
 | comment d=>obtain ⟨sv,rfl,_⟩:=h;exact ⟨_,_,rfl⟩
 | dir d=>obtain ⟨sv,rfl,_⟩:=h;exact ⟨_,_,rfl⟩
 | proc tg d=>obtain ⟨sv,rfl,_⟩:=h;exact ⟨_,_,rfl⟩
theorem jN.assertE {w:World} {bv:Value} {B:Nat} {tv:Value} {tk:aP} (h:jN w bv B tv tk) :
  (∃ nm,tk=.fin nm∧∀ w,(Instr.typeAssert tv 47 106 true).run prog w=.ok (.tuple #[.agg #[aB nm.1,aB nm.2],.bool true]) w) ∨
  ((∀ nm,tk≠.fin nm)∧∀ w,(Instr.typeAssert tv 47 106 true).run prog w=.ok (.tuple #[.agg #[oO,oO],.bool false]) w):=by
 cases tk with
 | start nm ats=>obtain ⟨sv,rfl,_⟩:=h;exact Or.inr ⟨fun _ hh=>(by cases hh),fun w=>a1Q _ _ _ w⟩
 | fin nm=>rw [show tv=W2 nm from h];exact Or.inl ⟨nm,rfl,fun w=>Bf _ _ w⟩
 | text d=>obtain ⟨sv,rfl,_⟩:=h;exact Or.inr ⟨fun _ hh=>(by cases hh),fun w=>ZS _ w⟩
 | comment d=>obtain ⟨sv,rfl,_⟩:=h;exact Or.inr ⟨fun _ hh=>(by cases hh),fun w=>Bc _ w⟩
 | dir d=>obtain ⟨sv,rfl,_⟩:=h;exact Or.inr ⟨fun _ hh=>(by cases hh),fun w=>Bd _ w⟩
 | proc tg d=>obtain ⟨sv,rfl,_⟩:=h;exact Or.inr ⟨fun _ hh=>(by cases hh),fun w=>Be _ _ w⟩
def Bg (r:Option (Bs×Bs)):Value:=
 match r with
 | none=>.tuple #[.nilIface,.bool false]
 | some nm=>.tuple #[W2 nm,.bool true]
def a1R (x:Cx) (tv au:Value) (loc:Bs) (w0:World) (k:Nat) (a:Act) (w:World):Prop:=
 ∃ f i,a=fr 76 f [(0,bS x),(1,tv),(4,.nilIface),(5,.bool false),(28,au),(29,.int .i64 x.o.auto.length),(30,.int .i64 (i:Nat))]∧Below w0.heap.size w0 w∧k=x.o.auto.length-i∧i≤x.o.auto.length∧(x.o.auto.take i).any (fun a=>cG a loc)=false
theorem Ue (x:Cx) (hx:x.Ok) (JW:x.o.auto=[]) (c:DC) (Jq:QR x c.auto) (w:World) (hb:Below x.B x.W0 w) (v:DV) (h:bO w x.d c v) (s:St) {sb:List Nat} (hs:jB w c.stk s.stk sb) (pB:lS s.stk) (bv:Value) (B:Nat) (tv:Value) (tk:aP) (ht:jN w bv B tv tk) (iK:∀ nm,tk=.fin nm→nm.2.length≤1000000000000) :
  Calls prog 31 #[bS x,tv] w fun en w'=>en=.returned (Bg (nJ cG x.o tk s))∧Below w.heap.size w w':=by
 have hc:=h.cell
 have hf:=h.frozen
 have q1:=fun w=>JI w
 rcases hs.head pB with ⟨h1,h2⟩|⟨q,e,l',nx,ok,h1,h2,hk,hq,_⟩
 ·have HR:=Lh (show nJ cG x.o tk s=none by unfold nJ;rw [h2])
  clear h hs pB Jq JW hb ht iK
  refine eJ 76 func31 [_,_] fun f=>?_
  simp only [aE]
  (refine vg ?_;intro K hK)
  (refine kX ?_)
  exact ⟨by rw [HR.out];rfl,Below.refl _ _⟩
 have nU:=hq.cell
 have s6:=hq.frozen
 obtain ⟨_,A5,y8⟩:=pB e (by rw [h2];simp)
 obtain ⟨ek,esp,eloc,eok⟩:=e
 simp only at hk nU A5 y8
 rcases hk with rfl|rfl
 ·
  obtain ⟨A,N,C,hae,rfl,hN,hNC,Bh⟩:=Jq
  have a5i:c.auto=.slice A x.o.auto.length C:=hae
  have HH:=Lh h
  have HQ:=Lh hq
  have HB:=Lh hb
  have HFE:=Lh JW
  have HC:=Lh Bh
  have HL:=Lh y8
  have HN:=Lh hN
  have HS:=Lh h2
  have HAS:=Lh ht.assertE
  have kA:=Lh iK
  have h0:¬ (9223372036854775807:Int)<0:=by omega
  clear h hs pB JW hb ht iK hq Bh A5 y8 h2 hae
  refine eJ 76 func31 [_,_] fun f=>?_
  simp only [aE]
  (refine vg ?_;intro K hK)
  (refine cJ [0,1,4,5,28,29,30] fun f=>?_)
  refine wp_loop_ghost_k (a1R x tv (.slice A x.o.auto.length C) eloc w) x.o.auto.length ⟨f,0,rfl,Below.refl _ w,by simp,Nat.zero_le _,rfl⟩ ?_
  rintro k _ w2 ⟨f,i,rfl,OM,Xq,hi,Bi⟩ J K2 hJ cY
  have HJ:=Lh hJ
  have dN:=Lh cY
  have tW:=Lh OM
  have HK:=Lh Xq
  have NA:=Lh Bi
  clear hJ cY Xq Bi
  have FI:bO w2 x.d c v:=aJ.mod (S:=fun _=>False) HH.out (aH OM _) id
  have AQ:=aJ.mod (S:=fun _=>False) HQ.out (aH OM _) id
  clear hc hf nU s6 OM
  have hc:=FI.cell
  have hf:=FI.frozen
  have nU:=AQ.cell
  have s6:=AQ.frozen
  clear FI AQ
  by_cases bB:i<x.o.auto.length
  ·rw [HFE.out] at bB;exact absurd bB (by simp)
  ·have sX:i=x.o.auto.length:=by omega
   subst sX
   have t1:¬ ((x.o.auto.length:Int)<(x.o.auto.length:Int)):=by omega
   have HR:=Lh (show nJ cG x.o tk s=none by
    have h9:=NA.out
    rw [List.take_length] at h9
    unfold nJ
    rw [HS.out]
    simp only
    rw [if_neg (by simp),if_neg (by rw [h9];simp)])
   (revert K;refine vg ?_)
   (refine kX ?_)
   exact ⟨by rw [HR.out];rfl,tW.out⟩
 ·have HR:=Lh (show nJ cG x.o tk s=none by
   unfold nJ;rw [h2];simp)
  clear h hs pB Jq JW hb ht iK hq
  refine eJ 76 func31 [_,_] fun f=>?_
  simp only [aE]
  (refine vg ?_;intro K hK)
  (refine kX ?_)
  exact ⟨by rw [HR.out];rfl,Below.refl _ _⟩
theorem a4L (x:Cx) (hx:x.Ok) (JW:x.o.auto=[]) (c:DC) (Jq:QR x c.auto) (Jr:c.strict=x.o.strict) (w:World) (hb:Below x.B x.W0 w) (v:DV) (h:bO w x.d c v) (s:St) {sb:List Nat} (hs:jB w c.stk s.stk sb) (pB:lS s.stk) (bv:Value) (B:Nat) (tv:Value) (tk:aP) (ht:jN w bv B tv tk) (iK:∀ nm,tk=.fin nm→nm.2.length≤1000000000000) (Q:Exit→Act→World→Prop)
  (hQ1:(x.o.strict=true∨nJ cG x.o tk s=none)→∀ f w',Below w.heap.size w w'→(hX 19).wp prog Q (fr 204 f [(0,bS x),(4,tv),(5,.nilIface)]) w')
  (Tn:∀ nm,x.o.strict=false→nJ cG x.o tk s=some nm→∀ f w',Below w.heap.size w w'→(hX 19).wp prog Q (fr 204 f [(0,bS x),(4,W2 nm),(5,.nilIface)]) (w'.setCell ⟨x.d,17,none⟩ tv))
  (f:Nat→Value):(hX 14).wp prog Q (fr 204 f [(0,bS x),(4,tv),(5,.nilIface)]) w:=by
 have hc:=h.cell
 have hf:=h.frozen
 have HA:=Lh (Ue x hx JW c Jq w hb v h s hs pB bv B tv tk ht iK)
 obtain ⟨ty,u,rfl⟩:=ht.iface
 have HQ1:=Lh hQ1
 have R6:=Lh Tn
 have HH:=Lh h
 clear h hs pB hQ1 Tn Jq JW hb ht iK hx
 have iZ:c.strict=true∨c.strict=false:=by cases c.strict<;>simp
 conv=>arg 2;unfold hX;whnf
 rcases iZ with dA|dA
 ·have gC:=Lh (show x.o.strict=true by rw [←Jr];exact dA)
  clear Jr
  refine vT 19 ?_
  (refine cJ [0,4,5] fun f=>?_)
  exact aY (HQ1.out (Or.inl gC.out) f w (Below.refl _ w)) (by kernel_rfl)
 ·have gC:=Lh (show x.o.strict=false by rw [←Jr];exact dA)
  clear Jr
  (refine vg ?_;(repeat with_reducible intro K hK))
  refine HA.out.mono ?_
  rintro e2 w2 ⟨rfl,dJ⟩
  have nK:=Lh dJ
  have FI:bO w2 x.d c v:=aJ.mod (S:=fun _=>False) HH.out (aH dJ _) id
  clear dJ HA hc hf
  have hc:=FI.cell
  have hf:=FI.frozen
  clear FI
  cases iE:nJ cG x.o tk s with
  | none=>
   have tC:=Lh iE
   clear iE
   simp only [Bg]
   go_simp
   ((repeat revert K);refine vT 19 ?_)
   (refine cJ [0,4,5] fun f=>?_)
   exact aY (HQ1.out (Or.inr tC.out) f w2 nK.out) (by kernel_rfl)
  | some nm=>
   have tC:=Lh iE
   clear iE
   simp only [Bg]
   go_simp
   ((repeat revert K);refine vT 19 ?_)
   (refine cJ [0,4,5] fun f=>?_)
   exact aY (R6.out nm gC.out tC.out f w2 nK.out) (by kernel_rfl)
theorem D0:∀ (stk:List mQ) (ns:Bs→Option Bs),lS stk→vZ ns→lS (jK stk ns).1∧vZ (jK stk ns).2
 | [],ns,h1,h2=>⟨h1,h2⟩
 | e::stk,ns,h1,h2=>by
  unfold jK
  split
  ·exact ⟨h1,h2⟩
  ·refine D0 stk _ (fun e' he=>h1 e' (List.mem_cons_of_mem _ he)) (fun k u hu=>?_)
   unfold kL at hu
   split at hu
   ·split at hu
    ·simp only [oY] at hu
     rw [←hu];exact (h1 e List.mem_cons_self).2.1
    ·cases hu
   ·exact h2 k u hu
theorem VO {o:cU} {nm:Bs×Bs} {s s':St} {t:aP} (h:pW o nm s=.ok (t,s')) (h1:lS s.stk) (h2:vZ s.ns) :
  s'.rest=s.rest∧lS s'.stk∧vZ s'.ns∧(s'.toClose=s.toClose∨(s'.toClose=some nm∧∃ e stk,s.stk=e::stk∧e.loc≠nm.2))∧s'.next=s.next∧s'.ended=s.ended:=by
 unfold pW at h
 split at h
 ·cases h
 ·rename_i e stk hs
  rw [hs] at h1
  have Hr:lS stk:=fun e' he=>h1 e' (List.mem_cons_of_mem _ he)
  split at h
  ·cases h
  ·split at h
   ·rename_i AA
    split at h
    ·cases h
    ·simp only [cI,cC] at h
     obtain ⟨rfl,rfl⟩:=h
     exact ⟨rfl,Hr,h2,Or.inr ⟨rfl,e,stk,hs,AA⟩,rfl,rfl⟩
   ·split at h
    ·cases h
    ·simp only [cI,cC] at h
     obtain ⟨rfl,rfl⟩:=h
     obtain ⟨k1,k2⟩:=D0 stk s.ns Hr h2
     exact ⟨rfl,k1,k2,Or.inl rfl,rfl,rfl⟩
theorem Js (o:cU) (nm:Bs×Bs) (s:St):xM (pW o nm s):=by
 unfold pW
 split
 ·(first|exact aR _|exact aW|exact bL _)
 ·split
  ·(first|exact aR _|exact aW|exact bL _)
  ·split
   ·split<;>(first|exact aR _|exact aW|exact bL _)
   ·split<;>(first|exact aR _|exact aW|exact bL _)
def QS (s:St) (tk:aP):Prop:=∃ nm e stk',tk=.fin nm∧s.stk=e::stk'∧e.kind=0∧nm=(e.space,e.loc)
structure pR (x:Cx) (c:DC) (w:World) (v:DV) (s:St) (m:Nat) (sb fb:List Nat) (n:Nat) (B:Nat) (tv:Value) (tk:aP):Prop where
 cfg:BB x c
 rd:JR x c w v s
 own:nX x w c v m sb fb n s.stk s.ns
 sok:lS s.stk
 nok:vZ s.ns
 tcl:∀ nm,s.toClose=some nm→nm.1.length≤x.T.length∧nm.2.length≤x.T.length
 le:FR x.T.length tk∨QS s tk
 bnd:n+s.stk.length+2*s.rest.length+2*uN s.next+2*uN (some tk)≤2*x.T.length
 tok:jN w v.bufv B tv tk
 hB:x.B≤B
 hBs:B≤w.heap.size
 tkd:∀ g,dG tv g→g∉m::(sb++fb)∧¬ x.S1 v g
 nt:(∀ d,tk≠.text d)→(s.ended=false∧∃ b,bX x c w v s.rest none b)∨QS s tk
 nxt:l6 x w v c s (m::(sb++fb))
def xB (x:Cx) (w:World) (v:DV) (c:DC) (R:Except EK (aP×St)) (m:Nat) (sb fb:List Nat) (tv:Value) (t e:Value) (w':World):Prop:=
 match R with
 | .error k=>t=.nilIface∧BP x e (some k)∧Below x.B x.W0 w'∧kU w' e k∧aK (fun b=>x.S1 v b∨b∈m::(sb++fb)) w w'
 | .ok (tk,s')=>e=.nilIface∧∃ c' v' sb' fb' n',TS x c' w' v' s' m sb' fb' n'∧(∃ B,jN w' v'.bufv B t tk)∧aK (fun b=>b=x.d∨b∈m::(sb++fb)∨dG tv b) w w' ∧
   (∀ b∈m::(sb'++fb'),b∈m::(sb++fb)∨w.heap.size≤b)∧v'.bufv=v.bufv∧c'.nextTok=c.nextTok
theorem uL.next {c c':DC} (h:uL c c'):c'.nextTok=c.nextTok:=by
 obtain ⟨_,_,_,_,_,_,rfl⟩:=h
 rfl
theorem l6.far {x:Cx} {w:World} {v:DV} {c:DC} {s:St} {own:List Nat} (h:l6 x w v c s own) {g:Nat} (hg:dG c.nextTok g):g∉own∧¬ x.S1 v g:=by
 unfold l6 at h
 cases hx:s.next with
 | none=>rw [hx] at h;rw [show c.nextTok=.nilIface from h] at hg;exact hg.elim
 | some tk=>rw [hx] at h;obtain ⟨_,_,_,_,_,h5,_⟩:=h;exact h5 g hg
theorem bX.bufFar {x:Cx} {c:DC} {w:World} {v:DV} {rest:Bs} {e:Option EK} {b:Bs} {m:Nat} {sb fb:List Nat} {n:Nat} {c2:DC} {stk:List mQ} {ns:Bs→Option Bs} (h:bX x c w v rest e b) (ho:nX x w c2 v m sb fb n stk ns) {k:Nat} (hk:dQ v.bufv k):k≠x.d∧k∉m::(sb++fb):=
 ⟨fun he=>h.bf.notS0 k hk (Or.inl he),fun hh=>ho.s1 k hh (Or.inr hk)⟩
theorem pR.plain {x:Cx} {c:DC} {w:World} {v:DV} {s:St} {m:Nat} {sb fb:List Nat} {n B:Nat} {tv:Value} {tk:aP} (h:pR x c w v s m sb fb n B tv tk) (h1:∀ nm ats,tk≠.start nm ats) (h2:∀ nm,tk≠.fin nm):xB x w v c (eM x.o tk s) m sb fb tv tv .nilIface w:=by
 have e:eM x.o tk s=.ok (tk,s):=by
  unfold eM
  split
  ·exact absurd rfl (h1 _ _)
  ·exact absurd rfl (h2 _)
  ·rfl
 rw [e]
 exact ⟨rfl,c,v,sb,fb,n,⟨h.cfg,h.rd,h.own,h.sok,h.nok,h.tcl,by have:=h.bnd;omega,h.nxt⟩,⟨B,h.tok⟩,aK.refl _ _,fun b hb=>Or.inl hb,rfl,rfl⟩
theorem CC (x:Cx) (c:DC) (w:World) (v:DV) (s:St) (m:Nat) (sb fb:List Nat) (n B:Nat) (tv:Value) (tk:aP) (h:pR x c w v s m sb fb n B tv tk) (h1:∀ nm ats,tk≠.start nm ats) (h2:∀ nm,tk≠.fin nm) (Q:Exit→Act→World→Prop)
  (hQ:∀ f w' t e,xB x w v c (eM x.o tk s) m sb fb tv t e w'→Q .ret (fr 204 f [(2,t),(3,e)]) w') (f:Nat→Value):(hX 19).wp prog Q (fr 204 f [(0,bS x),(4,tv),(5,.nilIface)]) w:=by
 have HQ:=Lh hQ
 have H:=Lh h
 have ht:=h.tok
 clear hQ h
 conv=>arg 2;unfold hX;whnf
 cases tk with
 | start nm ats=>exact absurd rfl (h1 _ _)
 | fin nm=>exact absurd rfl (h2 _)
 | text d=>
  obtain ⟨sv,rfl,⟨g0,cap0,n0,rfl,_⟩⟩:=ht
  have q3:=fun v w=>Nx v w
  have q4:=fun v w=>ZS v w
  clear h1 h2
  refine vg ?_
  refine Qk [2,3] fun f=>?_
  exact HQ.out f _ _ _ (H.out.plain (by simp) (by simp))
 | comment d=>
  obtain ⟨sv,rfl,⟨g0,cap0,n0,rfl,_⟩⟩:=ht
  have q3:=fun v w=>On v w
  have q4:=fun v w=>Bc v w
  clear h1 h2
  refine vg ?_
  refine Qk [2,3] fun f=>?_
  exact HQ.out f _ _ _ (H.out.plain (by simp) (by simp))
 | dir d=>
  obtain ⟨sv,rfl,⟨g0,cap0,n0,rfl,_⟩⟩:=ht
  have q3:=fun v w=>Oo v w
  have q4:=fun v w=>Bd v w
  clear h1 h2
  refine vg ?_
  refine Qk [2,3] fun f=>?_
  exact HQ.out f _ _ _ (H.out.plain (by simp) (by simp))
 | proc tg d=>
  obtain ⟨sv,rfl,_⟩:=ht
  have q3:=fun v w=>Oq tg v w
  have q4:=fun v w=>Be tg v w
  clear h1 h2
  refine vg ?_
  refine Qk [2,3] fun f=>?_
  exact HQ.out f _ _ _ (H.out.plain (by simp) (by simp))
theorem Ov (x:Cx) (hx:x.All) (c:DC) (w:World) (v:DV) (s:St) (m:Nat) (sb fb:List Nat) (n B:Nat) (tv:Value) (nm:Bs × Bs) (h:pR x c w v s m sb fb n B tv (.fin nm)) (Q:Exit → Act → World → Prop)
    (hQ:∀ f w' t e,xB x w v c (eM x.o (.fin nm) s) m sb fb tv t e w' → Q .ret (fr 204 f [(2,t),(3,e)]) w') (f:Nat → Value):(hX 19).wp prog Q (fr 204 f [(0,bS x),(4,tv),(5,.nilIface)]) w:=by
  have ht:tv=W2 nm:=h.tok
  subst ht
  have q3:=fun a b w=>Ot a b w
  have q4:=fun a b w=>Bf a b w
  obtain ⟨e0,b0,hR,Ji,B7⟩:=h.rd.rd
  obtain ⟨wt,Fp⟩:∃ wt,wt=w.alloc (.cells #[aB nm.1,aB nm.2] 106):=⟨_,rfl⟩
  have eZ:Below w.heap.size w wt:=by rw [Fp];exact (Below.refl _ w).alloc (Nat.le_refl _) _
  have iE:aK (fun _=>False) w wt:=aH eZ _
  have s8:=hR.below hx.toOk eZ
  have rK:∀ k ∈ m :: (sb ++ fb),k < w.heap.size:=h.own.lt
  have hdB:x.d < w.heap.size:=hR.dec.lt
  have bF:=hx.len
  have WZ:nm.1.length ≤ 100000000000∧nm.2.length ≤ 100000000000:=by
    rcases h.le with ⟨k1,k2⟩|⟨nm',e,stk',h1,h2,_,h3⟩
    · omega
    · cases h1
      have:=h.sok e (by rw [h2];simp)
      rw [h3];exact this.2
  have hkt:(nm.1.length ≤ x.T.length∧nm.2.length ≤ x.T.length) ∨ QS s (.fin nm):=h.le
  have XA:As x c wt v s m sb fb n w.heap.size nm:=
    { fit:=by
        rcases h.nt (by simp) with ⟨h1,b,h2⟩|⟨nm',e,stk',h1,h2,h3,h4⟩
        · exact Or.inl ⟨h1,b,h2.below hx.toOk eZ⟩
        · cases h1;exact Or.inr ⟨e,stk',h2,h3,h4⟩
      strict:=h.cfg.dc.strict,rts:=⟨⟨e0,b0,s8,Ji,B7⟩,h.rd.nc,h.rd.tc,h.rd.nb⟩,own:=h.own.mod iE (fun _ _=>id) h.own.s1,sok:=h.sok,
      bnd:=by have:=h.bnd;omega,sp:=h.cfg.sp,tok:=by rw [Fp];exact aJ.new w _ _,tS:=hR.newS1,tO:=fun hh=>Nat.lt_irrefl _ (rK _ hh),tB:=Nat.le_trans h.hB h.hBs,l1:=WZ.1,l2:=WZ.2 }
  have A7:=Lh (JV x hx c wt v s m sb fb n w.heap.size nm XA)
  have HQ:=Lh hQ
  have H:=Lh h
  have tC:=Lh iE
  have HKT:=Lh hkt
  have HR0:=Lh hR
  have HX:=Lh hx
  clear hQ h hR s8 XA iE eZ rK hdB WZ hkt bF Ji B7 hx
  conv=>arg 2;unfold hX;whnf
  (refine vg ?_;(repeat with_reducible intro K hK))
  rw [← Fp]
  refine A7.out.mono ?_
  rintro e1 w1 hp
  have HW:=Lh (show eM x.o (.fin nm) s=pW x.o nm s from rfl)
  cases bR:pW x.o nm s with
  | error k=>
    unfold hH at hp
    rw [bR] at hp
    obtain ⟨rfl,c2,v2,hE,hmE⟩:=hp
    have HME:=Lh hmE
    obtain ⟨t1,u1,oQ⟩:=hE.err.iface
    have HE:=Lh hE
    have hc:=hE.dec.cell
    have hf:=hE.dec.frozen
    have HU:=Lh oQ
    have dB:=Lh bR
    clear hE A7 Fp bR hmE
    ((repeat revert K);refine vS ?_;(repeat with_reducible intro K hK))
    ((refine cJ [0] fun f=>?_);go_quiet (fail);((repeat revert K);refine vg ?_;(repeat with_reducible intro K hK));refine Qk [2,3] fun f=>?_)
    refine HQ.out f _ _ _ ?_
    rw [HW.out,dB.out]
    refine ⟨rfl,by rw [← HU.out];exact HE.out.err,(HE.out.drewN _).base,kU.no (fun hh=>by subst hh;exact Js _ _ _ dB.out),?_⟩
    refine (tC.out.mono (fun _ _ h=>h.elim)).trans (HME.out.drewN _) (fun i hi hs=>?_)
    rcases hs with hs|hs|hs
    · exact Or.inl hs
    · exact Or.inr hs
    · omega
  | ok p=>
    obtain ⟨tk,s'⟩:=p
    unfold hH at hp
    rw [bR] at hp
    obtain ⟨nm',rfl,rfl,c2,sb2,fb2,n2,wD,QC,dJ,tE,iA,gS,gK⟩:=hp
    have dB:=Lh bR
    have B6:=dJ.cell
    have M7:=dJ.frozen
    have fB:=Lh wD
    have QQ:=Lh QC
    have OQ:=Lh tE
    have wS:=Lh iA
    have gH:=Lh gS
    have mH:=Lh gK
    clear wD QC tE iA gS gK dJ A7 bR
    ((repeat revert K);refine vS ?_)
    refine Qk [2,3] fun f=>?_
    refine HQ.out f _ _ _ ?_
    rw [HW.out,dB.out]
    obtain ⟨j1,j2,j3,j4,j5,j6⟩:=VO dB.out H.out.sok H.out.nok
    have hwz:w.heap.size ≤ wt.heap.size:=tC.out.size
    have hmA:aK (fun b=>b=x.d ∨ b ∈ m :: (sb ++ fb) ∨ dG (W2 nm) b) w _:=(tC.out.mono (fun _ _ h=>h.elim)).trans wS.out (fun i hi hs=>by
      rcases hs with hs|hs|hs
      · exact Or.inl hs
      · exact Or.inr (Or.inl hs)
      · omega)
    refine ⟨rfl,c2,v,sb2,fb2,n2,⟨H.out.cfg.same OQ.out,fB.out,QQ.out,j2,j3,?_,?_,?_⟩,⟨0,rfl⟩,hmA,fun b hb=>?_,rfl,OQ.out.next⟩
    · intro nm9 h9
      rcases j4 with j4|⟨j4,e,stk,j7,j8⟩
      · exact H.out.tcl nm9 (by rw [← j4];exact h9)
      · rw [j4] at h9
        simp only [oY] at h9
        subst h9
        rcases HKT.out with h8|⟨nm',e',stk',h1,h2,_,h3⟩
        · exact h8
        · cases h1
          rw [j7] at h2
          obtain ⟨rfl,_⟩:=List.cons.inj h2
          exact absurd (by rw [h3]) j8
    · rw [j1,j5]
      have h8:=mH.out
      have h9:=H.out.bnd
      omega
    · refine H.out.nxt.step hmA (fun k hk hh=>?_) (fun g hg hh=>?_) j5 OQ.out.next j6 (fun b hb=>?_)
      · obtain ⟨h7,h8⟩:=HR0.out.bufFar H.out.own hk
        rcases hh with hh|hh|hh
        · exact h7 hh
        · exact h8 hh
        · exact hh.elim
      · obtain ⟨h7,h8⟩:=H.out.nxt.far hg
        rcases hh with hh|hh|hh
        · exact h8 (hh ▸ Or.inl (Or.inl rfl))
        · exact h7 hh
        · exact hh.elim
      · rcases gH.out b hb with h9|h9
        · exact Or.inl h9
        · exact Or.inr (Nat.le_trans hwz h9)
    · rcases gH.out b hb with h9|h9
      · exact Or.inl h9
      · exact Or.inr (Nat.le_trans hwz h9)
end Go.Proofs.YtdjdjbpnbjdaaaaGreatDoor
