/- Part of the proof that laws.FnRawTokens returns true for every argument. No conditions. -/
import Derived.Test.YtdjdjbpnbjdaaaaGreatDoorP33
import Derived.Test.YtdjdjbpnbjdaaaaGreatDoorP34
import Derived.Test.YtdjdjbpnbjdaaaaGreatDoorP35
import Derived.Test.YtdjdjbpnbjdaaaaGreatDoorP29
import Derived.Test.YtdjdjbpnbjdaaaaGreatDoorP32
set_option linter.all false
set_option maxHeartbeats 8000000
set_option maxRecDepth 100000
namespace Go.Proofs.YtdjdjbpnbjdaaaaGreatDoor
open Go Go.RowKit
theorem ES {w:World} {b b':Nat} {e:TypeId} {size:Nat} {v:Value} {n:Nat} {xs:List Value} (h:w.ownsRow b e size v n xs) (hb:b'≤b):w.ownsRow b' e size v n xs:=by
 obtain ⟨h1,h2|⟨g,cap,cur,h3,h4,h5⟩⟩:=h
 ·exact ⟨h1,Or.inl h2⟩
 ·exact ⟨h1,Or.inr ⟨g,cap,cur,h3,Nat.le_trans hb h4,h5⟩⟩
theorem Lw (ents:aO) {T:Bs} {a b m:Nat} {acc:List eI} (hw:aM (T.drop a)=T.drop b) (h:T.length≤b):dL ents (m+1) (T.drop a) acc=.error .bad:=by
 unfold dL
 rw [hw,List.drop_eq_nil_of_le h]
theorem Wq (ents:aO) {T:Bs} {a b m:Nat} {acc:List eI} (hw:aM (T.drop a)=T.drop b) (hb:b<T.length) (h:T.getD b 0=62):dL ents (m+1) (T.drop a) acc=.ok (acc,false,T.drop (b+1)):=by
 unfold dL
 rw [hw,bT T b hb]
 simp only [if_pos h]
theorem Wr (ents:aO) {T:Bs} {a b m:Nat} {acc:List eI} (hw:aM (T.drop a)=T.drop b) (hb:b<T.length) (h:T.getD b 0=47):dL ents (m+1) (T.drop a) acc=if ([62]:Bs).isPrefixOf (T.drop (b+1)) then .ok (acc,true,T.drop (b+2)) else .error .bad:=by
 unfold dL
 rw [hw,bT T b hb]
 simp only [if_neg (show ¬ T.getD b 0=62 by rw [h];decide),if_pos h]
 by_cases h1:b+1<T.length
 ·rw [cX 62 T (b+1) h1,bT T (b+1) h1]
  by_cases h2:T.getD (b+1) 0=62
  ·simp only [if_pos h2]
   rw [if_pos (by rw [h2];rfl)]
  ·simp only [if_neg h2]
   rw [if_neg (by rw [beq_iff_eq];exact fun hh=>h2 hh.symm)]
 ·rw [List.drop_eq_nil_of_le (by omega)];rfl
theorem Ws (ents:aO) {T:Bs} {a b m:Nat} {acc:List eI} (hw:aM (T.drop a)=T.drop b) (ha:a≤T.length) (hb:b<T.length) (h1:¬ T.getD b 0=62) (h2:¬ T.getD b 0=47):dL ents (m+1) (T.drop a) acc=match eB ents (T.drop b) with
  | .error e=>.error e
  | .ok (at',r2)=>if ¬ a<b then .error .opn else if acc.any (fun x=>x.1==at'.1&&x.2.1==at'.2.1) then .error .opn else dL ents m r2 (acc++[at']):=by
 have e:((T.drop b).length=(T.drop a).length)↔¬ a<b:=by
  rw [List.length_drop,List.length_drop]
  have:=congrArg List.length hw
  have h9:∀ l:Bs,(aM l).length≤l.length:=by
   intro l
   induction l with
   | nil=>exact Nat.le_refl _
   | cons c r ih=>
    unfold aM
    split
    ·rw [List.length_cons];omega
    ·exact Nat.le_refl _
  have h8:=h9 (T.drop a)
  rw [this,List.length_drop,List.length_drop] at h8
  omega
 conv=>lhs;unfold dL
 rw [hw]
 have hd:=bT T b hb
 have e2:(match T.drop b with
  | []=>.error .bad
  | b'::r=>
   if b'=62 then .ok (acc,false,r)
   else if b'=47 then (match r with
    | []=>.error .bad
    | c::r2=>if c=62 then .ok (acc,true,r2) else .error .bad)
   else match eB ents (b'::r) with
    | .error e=>.error e
    | .ok (a',r2)=>
     if (T.drop b).length=(T.drop a).length then .error .opn
     else if acc.any (fun x=>x.1==a'.1&&x.2.1==a'.2.1) then .error .opn
     else dL ents m r2 (acc++[a']):Except SV (List eI×Bool×Bs))=match eB ents (T.drop b) with
  | .error e=>.error e
  | .ok (at',r2)=>if ¬ a<b then .error .opn else if acc.any (fun x=>x.1==at'.1&&x.2.1==at'.2.1) then .error .opn else dL ents m r2 (acc++[at']):=by
  simp only [e]
  rw [hd]
  simp only [if_neg h1,if_neg h2]
 exact e2
def TK (o:m7) (opens:List Bs) (bound:List aO) (r:Except SV ((Bs×Bs)×List eI×Bool×Bs)):Except SV (List aP×iV):=match r with
 | .error e=>.error e
 | .ok (nm,ats,em,r)=>m8 o ⟨r,opens,bound⟩ (.start nm ats) em
def a2o (x:PX) (c:PC) (ents:aO) (bt:Nat) (nm:Bs×Bs) (r0 m0:Nat) (w0:World) (k:Nat) (ac:Act) (w:World):Prop:=
 ∃ f a acc sa sl sc m,ac=fr 83 f [(0,oM x),(6,.pointer (some ⟨bt,0,none⟩))]∧aU x w { c with at':=a }∧aJ w bt #[.int .i64 1,aB nm.1,aB nm.2,.slice sa sl sc,aB [],.int .i64 0] 61∧w.ownsRow w0.heap.size 64 3 (.slice sa sl sc) acc.length (aN acc)∧(Value.slice sa sl sc).ownBlock≠some bt∧aK (fun k=>k=x.p) w0 w ∧
  k=x.T.length-a∧a≤x.T.length∧c.at'≤a∧acc.length≤a∧x.T.length-a<m∧dL ents m0 (x.T.drop r0) []=dL ents m (x.T.drop a) acc
theorem G9 {α:Type} {l:List α} {i:Nat} {a:α} {p:α→Bool} (h:l[i]?=some a) (h1:(l.take i).any p=false) (h2:p a=false):(l.take (i+1)).any p=false:=by
 rw [List.take_add_one,h,List.any_append,h1]
 simp [h2]
def a2p (px pt pa v:Value) (a:eI) (acc:List eI) (w0:World) (k:Nat) (ac:Act) (w:World):Prop:=
 ∃ f i,ac=fr 83 f [(0,px),(6,pt),(8,pa),(56,v),(57,.int .i64 (acc.length:Nat)),(58,.int .i64 (i:Nat))]∧Below w0.heap.size w0 w∧k=acc.length-i∧i≤acc.length∧((acc.take i).any (fun x=>x.1==a.1&&x.2.1==a.2.1))=false
theorem Dq {ents:aO} {q:UInt8}:∀ (k:Nat) (T:Bs) (a:Nat) (out v r:Bs),t7 ents q k (T.drop a) out=.ok (v,r)→r.length<T.length-a
 | 0,_,_,_,_,_,h=>by cases h
 | k+1,T,a,out,v,r,h=>by
  by_cases ha:a<T.length
  ·by_cases h1:T.getD a 0=q
   ·rw [RB ents ha h1] at h
    simp only [cI,cC] at h
    rw [←h.2,List.length_drop];omega
   ·by_cases h2:T.getD a 0=60
    ·rw [Cy ents ha h1 h2] at h;cases h
    ·by_cases h3:T.getD a 0≠32∧nO (T.getD a 0)=true
     ·rw [Cz ents ha h1 h2 h3] at h;cases h
     ·rw [NX ents ha h1 h2 h3] at h
      cases hd:fR ents (T.drop a) with
      | error e=>rw [hd] at h;cases h
      | ok p=>
       obtain ⟨t,r2⟩:=p
       rw [hd] at h
       simp only at h
       have h5:=pU hd
       have h6:=Dq k r2 0 (out++t) v r (by simpa using h)
       omega
  ·rw [RA ents (by omega)] at h;cases h
theorem gW.bool {x:PX} {base:Nat} {out:List cH} {w:World} {r:Except SV (List aP×iV)} {e:Ending} {w':World} (h:gW x base out w r e w'):∃ b,e=.returned (.bool b):=by
 obtain ⟨_,h6⟩:=h
 split at h6
 ·exact ⟨_,h6.1⟩
 ·exact ⟨_,h6.1⟩
theorem CO:∀ l:Bs,(aM l).length≤l.length
 | []=>Nat.le_refl _
 | c::r=>by
  have ih:=CO r
  unfold aM
  split
  ·rw [List.length_cons];omega
  ·exact Nat.le_refl _
theorem Lx {ents:aO} {rest r:Bs} {v:eI} (h:eB ents rest=.ok (v,r)):r.length<rest.length:=by
 unfold eB at h
 cases hn:iB rest with
 | error e=>rw [hn] at h;cases h
 | ok p=>
  obtain ⟨nm,r1⟩:=p
  have h1:=(sL (f:=false) hn).2.2.2
  rw [hn] at h
  simp only at h
  have h2:=CO r1
  cases hs:aM r1 with
  | nil=>rw [hs] at h;cases h
  | cons b r2=>
   rw [hs] at h h2
   simp only at h
   rw [List.length_cons] at h2
   split at h
   ·have h3:=CO r2
    cases gS:aM r2 with
    | nil=>rw [gS] at h;cases h
    | cons q r3=>
     rw [gS] at h h3
     simp only at h
     rw [List.length_cons] at h3
     split at h
     ·cases ha:t7 ents q (r3.length+1) r3 [] with
      | error e=>rw [ha] at h;cases h
      | ok p=>
       obtain ⟨v2,r4⟩:=p
       rw [ha] at h
       simp only [cI,cC] at h
       have h4:=Dq (r3.length+1) r3 0 [] v2 r4 (by simpa using ha)
       rw [←h.2];omega
     ·cases h
   ·cases h
theorem Dr (x:PX) (hT:x.T.length≤100000000) (base:Nat) (ents:aO) (KU:pT ents) (Ds:Lo x base) (o:m7) (QI:o.raw=x.raw) (Wj:o.space=x.space) (w:World) (c:PC) (opens:List Bs) (bound:List aO) (out:List cH) (h:hY x base w c opens bound out) (bF:out.length≤499999999) (BG:opens.length≤499999999) (eZ:bound.length=opens.length) (ha:c.at'≤x.T.length) (hE:sS x base ents w) :
  Calls Tryz.prog 27 #[oM x] w (gW x base out w (TK o opens bound (fQ ents (x.T.drop c.at')))):=by
 have Wt:x.T.length≤1000000000:=by omega
 have HN:=Lh (J8 x Wt w c h.blk ha)
 have H:=Lh h
 have HT:=Lh hT
 have RJ:=Lh Wt
 have HE:=Lh hE
 have xG:=Lh KU
 have cL:=Lh bF
 have xD:=Lh BG
 have o5:=Lh eZ
 have HOO:=Lh Ds
 have Yv:=Lh QI
 have Yw:=Lh Wj
 have oK:=Lh (show fQ ents (x.T.drop c.at')=match iB (x.T.drop c.at') with
  | .error e=>.error e
  | .ok (nm,r)=>match dL ents (r.length+1) r [] with
   | .error e=>.error e
   | .ok (ats,em,r2)=>.ok (nm,ats,em,r2) from rfl)
 clear h hT Wt hE KU bF BG eZ Ds ha QI Wj
 refine eJ 83 Tryz.func27 [_] fun f=>?_
 simp only [aE]
 (refine vg ?_;(repeat with_reducible intro K hK))
 refine HN.out.mono ?_
 rintro e1 w1 ⟨eA,h1⟩
 have oJ:=Lh eA
 cases hn:iB (x.T.drop c.at') with
 | error k=>
  rw [hn] at h1 oK
  obtain ⟨⟨a1,qH⟩,rfl⟩:=h1
  have KO:=Lh qH
  clear qH eA HN
  ((repeat revert K);refine vS ?_;intro K hK)
  (refine cW ?_)
  exact gW.err (w1:=w) (k:=k) H.out KO.out oJ.out (by rw [oK.out];rfl)
 | ok q=>
  obtain ⟨nm,r⟩:=q
  have LJ:=Lh (N3 hn)
  rw [hn] at h1 oK
  obtain ⟨a1,mF,uU,AF,qH,rfl⟩:=h1
  have Db:r=x.T.drop a1:=mF
  subst Db
  obtain ⟨wa,jY⟩:∃ wa,wa=w1.alloc (.cells #[.int .i64 1,aB nm.1,aB nm.2,.slice none 0 0,aB [],.int .i64 0] 61):=⟨_,rfl⟩
  have HPA:=Lh (show aU x wa { c with at':=a1 } by rw [jY];exact qH.alloc _)
  have s7:=Lh (show aJ wa w1.heap.size #[.int .i64 1,aB nm.1,aB nm.2,.slice none 0 0,aB [],.int .i64 0] 61 by rw [jY];exact aJ.new w1 _ _)
  have Ci:=Lh (show aK (fun k=>k=x.p) w wa by rw [jY];exact eA.alloc _)
  obtain ⟨bt,hbt⟩:∃ bt,bt=w1.heap.size:=⟨_,rfl⟩
  rw [←hbt] at s7
  have HBT:=Lh (show w.heap.size≤bt by rw [hbt];exact eA.size)
  have kP:=Lh (show ¬ bt=x.p by have:=aJ.lt qH;omega)
  have Yr:=Lh uU
  have Uh:=Lh (show c.at'≤a1 from AF)
  obtain ⟨m0,wE⟩:∃ m0,m0=(x.T.drop a1).length+1:=⟨_,rfl⟩
  have Gj:=Lh (show x.T.length-a1<m0 by rw [wE,List.length_drop];omega)
  have qP:=Lh (show fQ ents (x.T.drop c.at')=match dL ents m0 (x.T.drop a1) [] with
   | .error e=>.error e
   | .ok (ats,em,r2)=>.ok (nm,ats,em,r2) by rw [oK.out,wE])
  clear qH eA HN mF uU AF wE oK
  ((repeat revert K);refine vS ?_)
  rw [←jY,←hbt]
  clear jY hbt
  (refine cJ [0,6] fun f=>?_)
  refine wp_loop_ghost_k (a2o x c ents bt nm a1 m0 w) (x.T.length-a1) ⟨f,a1,[],none,0,0,m0,rfl,HPA.out,s7.out,⟨rfl,Or.inl ⟨rfl,rfl⟩⟩,by simp [Value.ownBlock],Ci.out,rfl,Yr.out,Uh.out,Nat.zero_le _,Gj.out,rfl⟩ ?_
  clear HPA s7 Ci oJ
  rintro k _ w2 ⟨f,a,acc,sa,sl,sc,m,rfl,hp,hb,l7,a2q,hm,hk,iK,vV,iE,GN,rE⟩ J K2 hJ cY
  obtain ⟨m',rfl⟩:∃ m',m=m'+1:=⟨m-1,by omega⟩
  have HJ:=Lh hJ
  have dN:=Lh cY
  have HB:=Lh hb
  have qY:=Lh l7
  have rJ:=Lh a2q
  have HM:=Lh hm
  have HK:=Lh hk
  have kA:=Lh iK
  have sN:=Lh vV
  have tC:=Lh iE
  have sO:=Lh GN
  have vH:=Lh rE
  have JN:=Lh (oF x RJ.out w2 { c with at':=a } hp iK)
  have a4z:=JY l7
  subst a4z
  have MK:=Lh (show (Value.slice sa acc.length sc).ownBlock≠some x.p from fun he=>by have h1:=(aV l7 he).2;have h2:=aJ.lt H.out.blk;omega)
  clear hJ cY hp hb l7 a2q hm hk iK vV iE GN rE
  (refine vg ?_;(repeat with_reducible intro K hK))
  refine JN.out.mono ?_
  rintro e2 w3 ⟨a2,rfl,mG,iA,EG,DU,mX⟩
  have F7:=Lh (show aU x w3 { c with at':=a2 } from mG)
  have nK:=Lh (HB.out.mod iA kP.out)
  have GV:=Lh (aG qY.out iA (fun g hg he=>MK.out (by rw [←he];exact hg)))
  have wS:=Lh (HM.out.trans iA (fun _ _ h=>h))
  have tI:=Lh EG
  have Fr:=Lh (show a≤a2 from DU)
  have ZC:=Lh (show aM (x.T.drop a)=x.T.drop a2 from mX)
  obtain ⟨sp,fY⟩:∃ sp,sp=decide (a<a2):=⟨_,rfl⟩
  have Cq:decide ((({ c with at':=a }:PC).at':Int)<(a2:Int))=sp:=by rw [fY];simp
  rw [Cq]
  have a2r:=Lh fY
  clear mG iA EG DU mX JN fY Cq HB qY HM
  have RC:=Lh (fun (b:Nat) (w':World) (h1:aU x w' { c with at':=b }) (h2:aK (fun k=>k=x.p) w w') (v:Int)=>mO x w w' { c with at':=b } h1 h2 v)
  have Px:=Lh (fun (b:Nat) (hb:b≤x.T.length) (w':World) (h1:aU x w' { c with at':=b }) (h2:aK (fun k=>k=x.p) w w') (h3:w'.ownsRow w.heap.size 64 3 (.slice sa acc.length sc) acc.length (aN acc)) (em:Bool)=>
   HOO.out w' { c with at':=b } opens bound out (H.out.own h1 h2 rfl rfl rfl) cL.out xD.out o5.out hb nm (by have h9:=LJ.out.1;rw [List.length_drop] at h9;have:=HT.out;omega) (by have h9:=LJ.out.2;rw [List.length_drop] at h9;have:=HT.out;omega) acc sa acc.length sc (by have:=tC.out;have:=HT.out;have:=kA.out;omega)
    (ES h3 H.out.size) (fun g hg hbz=>by have h8:=(H.out.busy (show q9 x c g from hbz)).2;have h9:=(aV h3 hg).2;omega) em o Yv.out Yw.out)
  go_simp
  cases qJ:([62]:Bs).isPrefixOf (x.T.drop a2) with
  | true=>
   have HH:=Lh (jE x RJ.out w3 { c with at':=a2 } F7.out tI.out [62] (by decide) qJ)
   have bB:=lU qJ (by decide)
   have HR:=Lh (show fQ ents (x.T.drop c.at')=.ok (nm,acc,false,x.T.drop (a2+1)) by
    have h9:=cX 62 x.T a2 bB
    rw [qJ] at h9
    have gN:x.T.getD a2 0=62:=(beq_iff_eq.1 h9.symm).symm
    rw [qP.out,vH.out,Wq ents ZC.out bB gN])
   have zW:=Lh bB
   clear qJ bB
   ((repeat revert K);refine vg ?_;(repeat with_reducible intro K hK))
   refine HH.out.mono ?_
   rintro eh w4 ⟨rfl,lW,oX⟩
   have xQ:=Lh (show aU x w4 { c with at':=a2+1 } from lW)
   have o6:=Lh (wS.out.trans oX (fun _ _ h=>h))
   have TL:=Lh (aG GV.out oX (fun g hg he=>MK.out (by rw [←he];exact hg)))
   have C7:=Lh (nK.out.mod oX kP.out)
   clear lW oX HH
   have hc:=C7.out.cell
   have hf:=C7.out.frozen
   ((repeat revert K);refine vS ?_;(repeat with_reducible intro K hK))
   refine (Px.out (a2+1) zW.out _ (by exact xQ.out) (by exact eF o6.out rfl rfl rfl rfl) (by exact TL.out) false).mono ?_
   rintro e9 w9 h9
   have h5:gW x base out w (TK o opens bound (fQ ents (x.T.drop c.at'))) e9 w9:=by rw [HR.out];exact gW.base (aK.below (Below.refl base w) H.out.size (show aK (fun k=>k=x.p) w _ from eF o6.out rfl rfl rfl rfl) (fun i hi=>by rw [hi];exact H.out.pb)) h9
   obtain ⟨b9,rfl⟩:=gW.bool h9
   have H5:=Lh h5
   clear h9 h5
   ((repeat revert K);refine vS ?_;intro K hK)
   (refine cW ?_)
   exact H5.out
  | false=>
   have HH:=Lh (iP x RJ.out w3 { c with at':=a2 } F7.out tI.out [62] (by decide) qJ)
   ((repeat revert K);refine vg ?_;(repeat with_reducible intro K hK))
   refine HH.out.mono ?_
   rintro eh w4 ⟨rfl,lW,oX⟩
   have xQ:=Lh (show aU x w4 { c with at':=a2 } from lW)
   have o6:=Lh (wS.out.trans oX (fun _ _ h=>h))
   have TL:=Lh (aG GV.out oX (fun g hg he=>MK.out (by rw [←he];exact hg)))
   have C7:=Lh (nK.out.mod oX kP.out)
   clear lW oX HH
   go_simp
   cases xH:([47]:Bs).isPrefixOf (x.T.drop a2) with
   | true=>
    have HH:=Lh (jE x RJ.out w4 { c with at':=a2 } xQ.out tI.out [47] (by decide) xH)
    have bB:=lU xH (by decide)
    have HR0:=Lh (show dL ents m0 (x.T.drop a1) []=if ([62]:Bs).isPrefixOf (x.T.drop (a2+1)) then .ok (acc,true,x.T.drop (a2+2)) else .error .bad by
     have h9:=cX 47 x.T a2 bB
     rw [xH] at h9
     have gN:x.T.getD a2 0=47:=(beq_iff_eq.1 h9.symm).symm
     rw [vH.out,Wr ents ZC.out bB gN])
    have zW:=Lh bB
    clear qJ xH bB
    ((repeat revert K);refine vg ?_;(repeat with_reducible intro K hK))
    refine HH.out.mono ?_
    rintro eh w5 ⟨rfl,lW,oX⟩
    have rL:=Lh (show aU x w5 { c with at':=a2+1 } from lW)
    have pY:=Lh (o6.out.trans oX (fun _ _ h=>h))
    have TM:=Lh (aG TL.out oX (fun g hg he=>MK.out (by rw [←he];exact hg)))
    have vQ:=Lh (C7.out.mod oX kP.out)
    clear lW oX HH
    go_simp
    cases CU:([62]:Bs).isPrefixOf (x.T.drop (a2+1)) with
    | true=>
     have HH:=Lh (jE x RJ.out w5 { c with at':=a2+1 } rL.out zW.out [62] (by decide) CU)
     have HL6:=Lh (show a2+2≤x.T.length by have:=lU CU (by decide);omega)
     have HR:=Lh (show fQ ents (x.T.drop c.at')=.ok (nm,acc,true,x.T.drop (a2+2)) by rw [qP.out,HR0.out,if_pos CU])
     clear CU
     ((repeat revert K);refine vg ?_;(repeat with_reducible intro K hK))
     refine HH.out.mono ?_
     rintro eh w6 ⟨rfl,lW,oX⟩
     have jS:=Lh (show aU x w6 { c with at':=a2+1+1 } from lW)
     have jU:=Lh (pY.out.trans oX (fun _ _ h=>h))
     have Py:=Lh (aG TM.out oX (fun g hg he=>MK.out (by rw [←he];exact hg)))
     have Yu:=Lh (vQ.out.mod oX kP.out)
     clear lW oX HH
     have hc:=Yu.out.cell
     have hf:=Yu.out.frozen
     ((repeat revert K);refine vS ?_;(repeat with_reducible intro K hK))
     refine (Px.out (a2+2) HL6.out _ (by exact jS.out) (by exact eF jU.out rfl rfl rfl rfl) (by exact Py.out) true).mono ?_
     rintro e9 w9 h9
     have h5:gW x base out w (TK o opens bound (fQ ents (x.T.drop c.at'))) e9 w9:=by rw [HR.out];exact gW.base (aK.below (Below.refl base w) H.out.size (show aK (fun k=>k=x.p) w _ from eF jU.out rfl rfl rfl rfl) (fun i hi=>by rw [hi];exact H.out.pb)) h9
     obtain ⟨b9,rfl⟩:=gW.bool h9
     have H5:=Lh h5
     clear h9 h5
     ((repeat revert K);refine vS ?_;intro K hK)
     (refine cW ?_)
     exact H5.out
    | false=>
     have HH:=Lh (iP x RJ.out w5 { c with at':=a2+1 } rL.out zW.out [62] (by decide) CU)
     have HR:=Lh (show fQ ents (x.T.drop c.at')=.error .bad by rw [qP.out,HR0.out,if_neg (by rw [CU];simp)])
     clear CU
     ((repeat revert K);refine vg ?_;(repeat with_reducible intro K hK))
     refine HH.out.mono ?_
     rintro eh w6 ⟨rfl,lW,oX⟩
     have jS:=Lh (show aU x w6 { c with at':=a2+1 } from lW)
     have jU:=Lh (pY.out.trans oX (fun _ _ h=>h))
     have Py:=Lh (aG TM.out oX (fun g hg he=>MK.out (by rw [←he];exact hg)))
     have Yu:=Lh (vQ.out.mod oX kP.out)
     clear lW oX HH
     ((repeat revert K);refine vS ?_;(repeat with_reducible intro K hK))
     refine (RC.out (a2+1) _ (by exact jS.out) (by exact eF jU.out rfl rfl rfl rfl) _).mono ?_
     rintro e6 w6 ⟨rfl,gD,eQ⟩
     have jS:=Lh gD
     have jU:=Lh eQ
     clear gD eQ
     ((repeat revert K);refine vS ?_;(repeat with_reducible intro K hK))
     (refine cW ?_)
     exact gW.err (w1:=w) (k:=.bad) H.out jS.out jU.out (by rw [HR.out];rfl)
   | false=>
    have HH:=Lh (iP x RJ.out w4 { c with at':=a2 } xQ.out tI.out [47] (by decide) xH)
    ((repeat revert K);refine vg ?_;(repeat with_reducible intro K hK))
    refine HH.out.mono ?_
    rintro eh w5 ⟨rfl,lW,oX⟩
    have rL:=Lh (show aU x w5 { c with at':=a2 } from lW)
    have pY:=Lh (o6.out.trans oX (fun _ _ h=>h))
    have TM:=Lh (aG TL.out oX (fun g hg he=>MK.out (by rw [←he];exact hg)))
    have vQ:=Lh (C7.out.mod oX kP.out)
    clear lW oX HH
    go_simp
    by_cases bB:a2<x.T.length
    rotate_left
    ·have HR:=Lh (show fQ ents (x.T.drop c.at')=.error .bad by rw [qP.out,vH.out,Lw ents ZC.out (by omega)])
     have AG:=Lh (fun (w':World) (h1:aU x w' { c with at':=a2 })=>qC x w' { c with at':=a2 } h1 (by simp;omega))
     clear qJ xH
     ((repeat revert K);refine vg ?_;(repeat with_reducible intro K hK))
     refine (AG.out _ (by exact rL.out)).mono ?_
     rintro e6 w6 ⟨rfl,k6,rfl⟩
     ((repeat revert K);refine vS ?_;(repeat with_reducible intro K hK))
     refine (RC.out (a2) _ (by exact rL.out) (by exact eF pY.out rfl rfl rfl rfl) _).mono ?_
     rintro e6 w6 ⟨rfl,gD,eQ⟩
     have jS:=Lh gD
     have jU:=Lh eQ
     clear gD eQ
     ((repeat revert K);refine vS ?_;intro K hK)
     (refine cW ?_)
     exact gW.err (w1:=w) (k:=.bad) H.out jS.out jU.out (by rw [HR.out];rfl)
    have AG:=Lh (fun (w':World) (h1:aU x w' { c with at':=a2 })=>qD x w' { c with at':=a2 } h1 bB)
    have SS:=Lh (show dL ents m0 (x.T.drop a1) []=_ from vH.out.trans (Ws ents (m:=m') (acc:=acc) ZC.out kA.out bB
     (fun hh=>by have h9:=cX 62 x.T a2 bB;rw [qJ,hh] at h9;cases h9)
     (fun hh=>by have h9:=cX 47 x.T a2 bB;rw [xH,hh] at h9;cases h9)))
    clear qJ xH
    ((repeat revert K);refine vg ?_;(repeat with_reducible intro K hK))
    refine (AG.out _ (by exact rL.out)).mono ?_
    rintro e6 w6 ⟨rfl,k6,rfl⟩
    have a2s:=Lh (Lm x RJ.out base H.out.pb ents xG.out (w5.drewN k6) { c with at':=a2 } rL.out tI.out (HE.out.below (aK.below (Below.refl _ w) H.out.size (pY.out.drewN k6) (fun i hi=>by rw [hi];exact H.out.pb))))
    ((repeat revert K);refine vS ?_;(repeat with_reducible intro K hK))
    refine a2s.out.mono ?_
    rintro e7 w7 ⟨fU,h7⟩
    have KE:=Lh (show aK (fun k=>k=x.p) w w7 from aK.trans (pY.out.drewN k6) fU (fun _ _ h=>h))
    have Pz:=Lh (show w7.ownsRow w.heap.size 64 3 (.slice sa acc.length sc) acc.length (aN acc) from aG (w:=w5.drewN k6) TM.out fU (fun g hg he=>MK.out (by rw [←he];exact hg)))
    have FB:=Lh (aJ.mod (S:=fun k=>k=x.p) (w:=w5.drewN k6) vQ.out fU kP.out)
    clear fU a2s
    rw [show ({ c with at':=a2 }:PC).at'=a2 from rfl] at h7
    cases hr:eB ents (x.T.drop a2) with
    | error k=>
     rw [hr] at h7
     obtain ⟨⟨a7,sU⟩,rfl⟩:=h7
     have CL:=Lh sU
     have HR:=Lh (show fQ ents (x.T.drop c.at')=.error k by rw [qP.out,SS.out,hr])
     clear sU
     ((repeat revert K);refine vS ?_;intro K hK)
     (refine cW ?_)
     exact gW.err (w1:=w) (k:=k) (a:=a7) H.out (aJ.alloc (w:=w7) CL.out _) (KE.out.alloc _) (by rw [HR.out];rfl)
    | ok q=>
     rw [hr] at h7
     obtain ⟨at',r7⟩:=q
     obtain ⟨a7,NW,uV,ED,sU,rfl⟩:=h7
     have EE:r7=x.T.drop a7:=NW
     subst EE
     have CL:=Lh (show aU x w7 { c with at':=a7 } from sU)
     have EF:=Lh uV
     have kG:=Lh (show a2<a7 by have:=Lx hr;rw [List.length_drop,List.length_drop] at this;omega)
     have MW:=Lh (show dL ents m0 (x.T.drop a1) []=if ¬ a<a2 then .error .opn else if acc.any (fun x=>x.1==at'.1&&x.2.1==at'.2.1) then .error .opn else dL ents m' (x.T.drop a7) (acc++[at']) by rw [SS.out,hr])
     obtain ⟨w8,G0⟩:∃ w8,w8=w7.alloc (.cells #[aB at'.1,aB at'.2.1,aB at'.2.2] 64):=⟨_,rfl⟩
     have s7:=Lh (show aJ w8 w7.heap.size #[aB at'.1,aB at'.2.1,aB at'.2.2] 64 by rw [G0];exact aJ.new w7 _ _)
     have GY:=Lh (show aK (fun k=>k=x.p) w w8 by rw [G0];exact KE.out.alloc _)
     have Ly:aK (fun _=>False) w7 w8:=by rw [G0];exact (aK.refl _ w7).alloc _
     have Dt:=Lh (aG (S:=fun _=>False) Pz.out Ly (fun _ _=>id))
     have HB8:=Lh (FB.out.mod Ly id)
     have OW:=Lh (show aU x w8 { c with at':=a7 } from CL.out.mod Ly id)
     obtain ⟨ba,k8⟩:∃ ba,ba=w7.heap.size:=⟨_,rfl⟩
     rw [←k8] at s7
     have a5t:=Lh (show ba≠bt∧ba≠x.p∧(Value.slice sa acc.length sc).ownBlock≠some ba by
      refine ⟨?_,?_,?_⟩
      ·have:=aJ.lt FB.out;omega
      ·have:=aJ.lt CL.out;omega
      ·intro he;have:=(aV Pz.out he).1;omega)
     clear sU hr NW uV ED Ly
     go_simp
     ((repeat revert K);refine vT 15 ?_)
     rw [←G0,←k8]
     clear G0 k8
     cases sp with
     | false=>
      have HR:=Lh (show fQ ents (x.T.drop c.at')=.error .opn by rw [qP.out,MW.out,if_pos (of_decide_eq_false a2r.out.symm)])
      (refine vg ?_;(repeat with_reducible intro K hK))
      refine (RC.out (a7) _ (by exact OW.out) (by exact eF GY.out rfl rfl rfl rfl) _).mono ?_
      rintro e6 w6 ⟨rfl,gD,eQ⟩
      have jS:=Lh gD
      have jU:=Lh eQ
      clear gD eQ
      ((repeat revert K);refine vS ?_;intro K hK)
      (refine cW ?_)
      exact gW.err (w1:=w) (k:=.opn) H.out jS.out jU.out (by rw [HR.out];rfl)
     | true=>
      have Ag:=Lh (MW.out.trans (if_neg (fun h=>h (of_decide_eq_true a2r.out.symm))))
      have hc:=HB8.out.cell
      (refine vg ?_;intro K hK)
      (refine cJ [0,6,8,56,57,58] fun f=>?_)
      clear hc
      refine wp_loop_ghost_k (a2p (oM x) (.pointer (some ⟨bt,0,none⟩)) (.pointer (some ⟨ba,0,none⟩)) (.slice sa acc.length sc) at' acc w8) acc.length ⟨f,0,rfl,Below.refl _ w8,rfl,Nat.zero_le _,rfl⟩ ?_
      rintro k9 _ w9 ⟨f,i,rfl,JQ,hk9,hi9,Qa⟩ J9 K9 hJ9 hK9
      have HJ9:=Lh hJ9
      have HK9:=Lh hK9
      have pF:=Lh JQ
      have Ny:=Lh hk9
      have NA:=Lh Qa
      clear hJ9 hK9 JQ hk9 Qa
      by_cases WA:i<acc.length
      ·have t0:(0:Int)≤(i:Int):=by omega
       have t1:(i:Int)<(acc.length:Int):=by omega
       have wi:IntKind.i64.wrap ((i:Int)+1)=((i+1:Nat):Int):=by rw [IntKind.wrap_i64];have h2:=tC.out;have h3:=HT.out;have h4:=kA.out;omega
       obtain ⟨b,hb⟩:∃ b,acc[i]?=some b:=⟨acc[i],by simp [WA]⟩
       obtain ⟨g,Om,_,k1,k2,k3⟩:=AB Dt.out hb
       subst Om
       have FA:g<w8.heap.size:=(aV Dt.out (g:=g) rfl).1
       have z7:w9.cell? ⟨g,i*3,none⟩=some (aB b.1):=(pF.out.cell (p:=⟨g,i*3,none⟩) FA).trans k1
       have z8:w9.cell? ⟨g,i*3+1,none⟩=some (aB b.2.1):=(pF.out.cell (p:=⟨g,i*3+1,none⟩) FA).trans k2
       have JU:w9.cell? ⟨g,i*3+2,none⟩=some (aB b.2.2):=(pF.out.cell (p:=⟨g,i*3+2,none⟩) FA).trans k3
       obtain ⟨wq,TC⟩:∃ wq,wq=w9.alloc (.cells #[aB b.1,aB b.2.1,aB b.2.2] 64):=⟨_,rfl⟩
       have KB:aJ wq w9.heap.size #[aB b.1,aB b.2.1,aB b.2.2] 64:=by rw [TC];exact aJ.new w9 _ _
       have QP:=Lh (show Below w8.heap.size w8 wq by rw [TC];exact pF.out.alloc pF.out.size _)
       have a2t:aJ wq ba #[aB at'.1,aB at'.2.1,aB at'.2.2] 64:=s7.out.mod (S:=fun _=>False) (aH QP.out _) id
       have nU:=KB.cell
       have wG:=a2t.cell
       have HBI:=Lh hb
       clear hb k1 k2 k3 FA KB a2t
       (revert K;refine vT 22 ?_;(repeat with_reducible intro K hK))
       rw [←TC]
       clear TC z7 z8 JU
       have M5:aK (fun k=>k=x.p) w wq:=GY.out.trans (aH QP.out (fun _=>False)) (fun _ _ h=>h.elim)
       have hpq:aU x wq { c with at':=a7 }:=OW.out.mod (S:=fun _=>False) (aH QP.out _) id
       have Vi:=Lh M5
       have HPQ:=Lh hpq
       clear M5 hpq
       cases h1:(b.1==at'.1) with
       | true=>
        cases h2:(b.2.1==at'.2.1) with
        | true=>
         have HR:=Lh (show fQ ents (x.T.drop c.at')=.error .opn by
          have h9:acc.any (fun x=>x.1==at'.1&&x.2.1==at'.2.1)=true:=by
           rw [List.any_eq_true]
           exact ⟨b,List.mem_of_getElem? HBI.out,by rw [h1,h2];rfl⟩
          rw [qP.out,Ag.out,if_pos h9])
         ((repeat revert K);refine vg ?_;(repeat with_reducible intro K hK))
         refine (RC.out (a7) _ (by exact HPQ.out) (by exact eF Vi.out rfl rfl rfl rfl) _).mono ?_
         rintro e6 w6 ⟨rfl,gD,eQ⟩
         have jS:=Lh gD
         have jU:=Lh eQ
         clear gD eQ
         ((repeat revert K);refine vS ?_;(repeat with_reducible intro K hK))
         (refine cW ?_)
         exact gW.err (w1:=w) (k:=.opn) H.out jS.out jU.out (by rw [HR.out];rfl)
        | false=>
         have xP:=Lh (G9 (p:=fun x=>x.1==at'.1&&x.2.1==at'.2.1) HBI.out NA.out (by rw [h1,h2];rfl))
         ((repeat revert K);refine vg ?_;intro K hK)
         (refine Kk [0,6,8,56,57,58] fun f=>?_)
         exact HK9.out _ _ ⟨acc.length-(i+1),by rw [Ny.out];omega,HJ9.out _ _ _ ⟨f,i+1,rfl,QP.out,rfl,WA,xP.out⟩⟩
       | false=>
        have xP:=Lh (G9 (p:=fun x=>x.1==at'.1&&x.2.1==at'.2.1) HBI.out NA.out (by rw [h1];rfl))
        ((repeat revert K);refine vg ?_;intro K hK)
        (refine Kk [0,6,8,56,57,58] fun f=>?_)
        exact HK9.out _ _ ⟨acc.length-(i+1),by rw [Ny.out];omega,HJ9.out _ _ _ ⟨f,i+1,rfl,QP.out,rfl,WA,xP.out⟩⟩
      ·have sX:i=acc.length:=by omega
       subst sX
       have t1:¬ ((acc.length:Int)<(acc.length:Int)):=by omega
       have a5A:=Lh (show dL ents m0 (x.T.drop a1) []=dL ents m' (x.T.drop a7) (acc++[at']) by
        have h9:=NA.out
        rw [List.take_length] at h9
        rw [Ag.out,if_neg (by rw [h9];simp)])
       have WH:aK (fun _=>False) w8 w9:=aH pF.out _
       have tG:=Lh (GY.out.trans WH (fun _ _ h=>h.elim))
       have FZ:=Lh (show aU x w9 { c with at':=a7 } from OW.out.mod WH id)
       have Wu:=Lh (HB8.out.mod WH id)
       have a5B:=Lh (s7.out.mod WH id)
       have Qb:=Lh (aG (S:=fun _=>False) Dt.out WH (fun _ _=>id))
       obtain ⟨wq,TC⟩:∃ wq,wq=w9.alloc (.cells #[aB at'.1,aB at'.2.1,aB at'.2.2] 64):=⟨_,rfl⟩
       have KB:aJ wq w9.heap.size #[aB at'.1,aB at'.2.1,aB at'.2.2] 64:=by rw [TC];exact aJ.new w9 _ _
       have M5:aK (fun _=>False) w9 wq:=by rw [TC];exact (aK.refl _ w9).alloc _
       obtain ⟨v',w10,gA,eC,Wv,hv,gv,cv,Fj⟩:=yJ S7 Tryz.underlying59 rfl (by decide) (by decide) wq w.heap.size (Nat.le_trans tG.out.size M5.size) (.slice sa acc.length sc) acc.length (by have:=tC.out;have:=HT.out;have:=kA.out;omega) (aN acc) (aG (S:=fun _=>False) Qb.out M5 (fun _ _=>id)) w9.heap.size [aB at'.1,aB at'.2.1,aB at'.2.2] rfl
        (fun j u hj=>by rw [KB.cell];simpa using hj)
        (fun u hu=>by
         simp only [List.mem_cons,List.not_mem_nil,or_false] at hu
         rcases hu with rfl|rfl|rfl<;>rfl)
       subst Fj
       have Vl:=Wu.out.cell
       have a5C:=a5B.out.cell
       have xC:=Lh eC
       have a2u:=Lh Wv
       have HV:=Lh hv
       have Vi:=Lh M5
       have TN:aJ w10 bt _ _:=(Wu.out.mod M5 id).mod Wv (fun he=>rJ.out he)
       have a2v:=Lh TN
       clear WH KB M5 eC Wv hv
       (revert K;refine vB ?_)
       rw [←TC]
       clear TC Vl a5C
       refine gQ rfl (.tmp 78) (.tmp 80) _ _ rfl _ _ _ (by rw [dZ (by decide)];(try simp only [aL,aQ,aS,bD,Nat.reduceEqDiff,↓reduceIte]);(try rfl)) (by rw [dZ (by decide)];(try simp only [aL,aQ,aS,bD,Nat.reduceEqDiff,↓reduceIte]);(try rfl)) gA ?_
       clear gA
       rw [mC (by decide)]
       have hc:=TN.cell
       have hf:=TN.frozen
       clear TN
       refine vg ?_
       (refine Kk [0,6] fun f=>?_)
       have Pg:∀ g,(Value.slice (some ⟨gv,0,none⟩) (acc.length+1) cv).ownBlock=some g→(Value.slice sa acc.length sc).ownBlock=some g∨wq.heap.size≤g:=fun g hg=>by
        rcases HV.out with h9|h9
        ·exact Or.inl (h9▸hg)
        ·rw [h9] at hg;right;simp at hg;omega
       have a5u:=aJ.lt Wu.out
       have FL:(Value.slice (some ⟨gv,0,none⟩) (acc.length+1) cv).ownBlock≠some bt:=fun he=>by
        rcases Pg bt he with h9|h9
        ·exact rJ.out h9
        ·have:=Vi.out.size;omega
       have Je:aK (fun k=>k=x.p) w w10:=(tG.out.trans Vi.out (fun _ _ h=>h.elim)).trans a2u.out (fun i hi hbz=>by
        have h9:=(aV Qb.out hbz).2;omega)
       have a5D:aU x w10 { c with at':=a7 }:=(FZ.out.mod Vi.out id).mod a2u.out MK.out
       refine dN.out _ _ ⟨x.T.length-a7,by rw [HK.out];have:=kG.out;have:=EF.out;have:=Fr.out;omega,HJ.out _ _ _ ⟨f,a7,acc++[at'],some ⟨gv,0,none⟩,acc.length+1,cv,m',rfl,aJ.set_ne a5D (fun he=>kP.out he.symm) _,?_,?_,FL,aK.setCell (S:=fun k=>k=x.p) Je (p:=⟨bt,3,none⟩) (Or.inr HBT.out) _,rfl,EF.out,by have:=sN.out;have:=Fr.out;have:=kG.out;omega,by rw [List.length_append];have:=tC.out;have:=Fr.out;have:=kG.out;simp;omega,by have:=sO.out;have:=kG.out;have:=EF.out;have:=Fr.out;omega,a5A.out⟩⟩
       ·have:=a2v.out.set 3 (.slice (some ⟨gv,0,none⟩) (acc.length+1) cv)
        simpa using this
       ·have e9:aN (acc++[at'])=aN acc++[aB at'.1,aB at'.2.1,aB at'.2.2]:=by simp [aN]
        rw [e9,List.length_append]
        exact aG (S:=fun k=>k=bt) xC.out (aK.setCell (S:=fun k=>k=bt) (aK.refl _ _) (p:=⟨bt,3,none⟩) (Or.inl rfl) _) (fun g hg he=>FL (by rw [←he];exact hg))
theorem Ww {T:Bs} {a:Nat} (h:T.length≤a):nN (T.drop a)=none:=by rw [List.drop_eq_nil_of_le h];rfl
theorem a2w {T:Bs} {a:Nat} (ha:a<T.length) (h:T.getD a 0=62):nN (T.drop a)=some (T.drop (a+1)):=by
 rw [bT T a ha];unfold nN;rw [if_pos h]
theorem a2x {T:Bs} {a:Nat} (ha:a<T.length) (h:¬ T.getD a 0=62) (h2:T.getD a 0=60∨T.getD a 0=91∨T.getD a 0=34∨T.getD a 0=39):nN (T.drop a)=none:=by
 rw [bT T a ha];unfold nN;rw [if_neg h,if_pos h2]
theorem a2y {T:Bs} {a:Nat} (ha:a<T.length) (h:¬ T.getD a 0=62) (h2:¬ (T.getD a 0=60∨T.getD a 0=91∨T.getD a 0=34∨T.getD a 0=39)):nN (T.drop a)=nN (T.drop (a+1)):=by
 rw [bT T a ha]
 conv=>lhs;unfold nN
 rw [if_neg h,if_neg h2]
def a2z (x:PX) (c:PC) (a0:Nat) (w0:World) (k:Nat) (ac:Act) (w:World):Prop:=
 ∃ f a,ac=fr 103 f [(0,oM x),(3,.int .i64 (c.at':Nat))]∧aU x w { c with at':=a }∧aK (fun k=>k=x.p) w0 w∧k=x.T.length-a∧a≤x.T.length∧c.at'≤a∧nN (x.T.drop a0)=nN (x.T.drop a)
theorem RK (x:PX) (hT:x.T.length≤1000000000) (base:Nat) (w:World) (c:PC) (opens:List Bs) (bound:List aO) (out:List cH) (h:hY x base w c opens bound out) (bF:out.length≤1000000000) (ha:c.at'≤x.T.length) :
  Calls Tryz.prog 24 #[oM x] w (gW x base out w (oV (fun d=>.dir (vU++d)) opens bound (sC (x.T.drop c.at')))):=by
 have hc:=h.blk.cell
 have hf:=h.blk.frozen
 have H:=Lh h
 have HT:=Lh hT
 have HA:=Lh ha
 have cL:=Lh bF
 have JN:=Lh (oF x hT w c h.blk ha)
 have Y4:=Lh (show sC (x.T.drop c.at')=if (aM (x.T.drop c.at')).length=(x.T.drop c.at').length∨eV (aD (aM (x.T.drop c.at'))).1=false then .error .opn
  else match nN (aD (aM (x.T.drop c.at'))).2 with
   | none=>.error .opn
   | some r=>if m6 ((x.T.drop c.at').take ((x.T.drop c.at').length-r.length-1)) then .ok ((x.T.drop c.at').take ((x.T.drop c.at').length-r.length-1),r) else .error .opn from rfl)
 clear h hT ha bF
 refine eJ 103 Tryz.func24 [_] fun f=>?_
 simp only [aE]
 (refine vg ?_;(repeat with_reducible intro K hK))
 refine JN.out.mono ?_
 rintro e1 w1 ⟨a1,rfl,qH,eA,uU,AF,mX⟩
 have KO:=Lh (show aU x w1 { c with at':=a1 } from qH)
 have oJ:=Lh eA
 have Yr:=Lh uU
 have HWO:=Lh (JE x HT.out w1 { c with at':=a1 } qH uU)
 rw [mX,List.length_drop,List.length_drop] at Y4
 have a5E:=Lh AF
 clear qH eA uU AF mX JN hc hf
 go_simp
 by_cases fY:c.at'<a1
 rotate_left
 ·have hd:decide (c.at'<a1)=false:=decide_eq_false fY
  have HR:=Lh (Y4.out.trans (if_pos (Or.inl (by have:=a5E.out;omega))))
  have HF:=Lh (mO x w w1 { c with at':=a1 } KO.out oJ.out 2)
  clear fY
  ((repeat revert K);refine vg ?_;(repeat with_reducible intro K hK))
  refine HF.out.mono ?_
  rintro e6 w6 ⟨rfl,gD,eQ⟩
  have jS:=Lh gD
  have jU:=Lh eQ
  clear gD eQ
  ((repeat revert K);refine vS ?_;intro K hK)
  (refine cW ?_)
  exact gW.err (w1:=w) (k:=.opn) H.out jS.out jU.out (by rw [HR.out];rfl)
 have hd:decide (c.at'<a1)=true:=decide_eq_true fY
 have oK:=Lh fY
 clear fY
 ((repeat revert K);refine vg ?_;(repeat with_reducible intro K hK))
 refine HWO.out.mono ?_
 rintro e2 w2 ⟨a2,rfl,mG,iA,EG,DU,n7⟩
 rw [show ({ c with at':=a1 }:PC).at'=a1 from rfl] at n7 ⊢
 have F7:=Lh (show aU x w2 { c with at':=a2 } from mG)
 have wS:=Lh (oJ.out.trans iA (fun _ _ h=>h))
 have tI:=Lh EG
 have Fr:=Lh (show a1≤a2 from DU)
 obtain ⟨s,hs⟩:∃ s,s=(aD (x.T.drop a1)).1:=⟨_,rfl⟩
 have OV:=Lh (show s.length≤1000000000 by have h1:=uS (x.T.drop a1);have h2:=HT.out;rw [List.length_drop,←hs] at h1;omega)
 rw [n7,←hs] at Y4
 rw [←hs]
 have W1:=Lh (fun w=>zV s OV.out w)
 clear mG iA EG DU n7 hs HWO
 ((repeat revert K);refine vS ?_;(repeat with_reducible intro K hK))
 refine (W1.out _).mono ?_
 rintro e3 w3 ⟨rfl,rfl⟩
 go_simp
 cases AV:eV s with
 | false=>
  have HR:=Lh (Y4.out.trans (if_pos (Or.inr AV)))
  have HF:=Lh (mO x w w3 { c with at':=a2 } F7.out wS.out 2)
  ((repeat revert K);refine vg ?_;(repeat with_reducible intro K hK))
  refine HF.out.mono ?_
  rintro e6 w6 ⟨rfl,gD,eQ⟩
  have jS:=Lh gD
  have jU:=Lh eQ
  clear gD eQ
  ((repeat revert K);refine vS ?_;intro K hK)
  (refine cW ?_)
  exact gW.err (w1:=w) (k:=.opn) H.out jS.out jU.out (by rw [HR.out];rfl)
 | true=>
  have Wx:=Lh (Y4.out.trans (if_neg (fun hh=>hh.elim (fun h=>by have:=oK.out;have:=Yr.out;omega) (fun h=>by rw [AV] at h;cases h))))
  clear Y4 AV
  ((repeat revert K);refine vg ?_;intro K hK)
  (refine cJ [0,3] fun f=>?_)
  refine wp_loop_ghost_k (a2z x c a2 w) (x.T.length-a2) ⟨f,a2,rfl,F7.out,wS.out,rfl,tI.out,by have:=Fr.out;have:=oK.out;omega,rfl⟩ ?_
  clear hd
  rintro k _ w2 ⟨f,a,rfl,hp,hm,hk,iK,vV,hdt⟩ J K2 hJ cY
  have HJ:=Lh hJ
  have dN:=Lh cY
  have HP:=Lh hp
  have HM:=Lh hm
  have HK:=Lh hk
  have kA:=Lh iK
  have sN:=Lh vV
  have Yt:=Lh hdt
  clear hJ cY hp hm hk iK vV hdt
  have RC:=Lh (fun (w':World) (h1:aU x w' { c with at':=a }) (h2:aK (fun k=>k=x.p) w w') (v:Int)=>mO x w w' { c with at':=a } h1 h2 v)
  cases qJ:([62]:Bs).isPrefixOf (x.T.drop a) with
  | true=>
   have HH:=Lh (jE x HT.out w2 { c with at':=a } HP.out kA.out [62] (by decide) qJ)
   have bB:=lU qJ (by decide)
   have hb:x.T.getD a 0=62:=by
    have h9:=cX 62 x.T a bB
    rw [qJ] at h9
    exact (beq_iff_eq.1 h9.symm).symm
   obtain ⟨s2,gS⟩:∃ s2,s2=(x.T.drop c.at').take (a-c.at'):=⟨_,rfl⟩
   have a3A:=Lh (show sC (x.T.drop c.at')=if m6 s2 then .ok (s2,x.T.drop (a+1)) else .error .opn by
    have e9:x.T.length-c.at'-(x.T.length-(a+1))-1=a-c.at':=by have:=sN.out;omega
    rw [Wx.out,Yt.out,a2w bB hb]
    simp only [List.length_drop,e9,←gS])
   have a3B:=Lh (show s2.length≤1000000000 by rw [gS,List.length_take,List.length_drop];have:=HT.out;omega)
   have zW:=Lh bB
   have HV:=Lh (fun w=>Q1 s2 a3B.out w)
   clear qJ bB hb
   (revert K;refine vg ?_;(repeat with_reducible intro K hK))
   refine HH.out.mono ?_
   rintro e3 w3 ⟨rfl,eK,cD⟩
   have eP:=Lh (show aU x w3 { c with at':=a+1 } from eK)
   have fM:=Lh (HM.out.trans cD (fun _ _ h=>h))
   clear eK cD HH
   have hc:=eP.out.cell
   have hf:=eP.out.frozen
   have z1:(0:Int)≤(c.at':Int):=by omega
   have w2':IntKind.i64.wrap (a:Int)=(a:Int):=by rw [IntKind.wrap_i64];have h8:=zW.out;have h9:=HT.out;omega
   have z2:(c.at':Int)≤(a:Int):=by have:=sN.out;omega
   have z3:(a:Int)≤(x.T.length:Int):=by have:=kA.out;omega
   ((repeat revert K);refine vS ?_;intro K hK)
   (refine aI [0,0,0,1,0,0,0,0,1,0,0,0] [0,1,2,3,4,5,6,7,8,9,10,11] (by kernel_rfl) (by kernel_rfl) ?_;refine vP ?_;repeat with_reducible intro nq)
   rw [lO,←gS]
   clear gS hc hf z1 z2 z3
   (revert K;refine vg ?_;(repeat with_reducible intro K hK))
   refine (HV.out _).mono ?_
   rintro e5 w5 ⟨rfl,rfl⟩
   go_simp
   cases hv:m6 s2 with
   | true=>
    have FX:=Lh (fun (w5:World) (h1:aU x w5 { c with at':=a+1 }) (h2:aK (fun k=>k=x.p) w w5)=>vK x base w w5 c opens bound out H.out cL.out (a+1) zW.out h1 h2 (.dir (vU++s2)) rfl (oV (fun d=>.dir (vU++d)) opens bound (sC (x.T.drop c.at'))) (by rw [a3A.out,if_pos hv];rfl))
    have a3:¬ 9223372036854775807<7+s2.length:=by have:=a3B.out;omega
    ((repeat revert K);refine vg ?_;(repeat with_reducible intro K hK))
    rw [show (⟨#[68,79,67,84,89,80,69]⟩:ByteArray)++⟨s2.toArray⟩=⟨(vU++s2).toArray⟩ from mP vU s2]
    refine (FX.out _ (by exact eP.out) (by exact eF fM.out rfl rfl rfl rfl)).mono ?_
    rintro e6 w6 ⟨rfl,h6⟩
    have H6:=Lh h6
    clear h6
    ((repeat revert K);refine vS ?_)
    (refine cW ?_)
    exact H6.out
   | false=>
    have HF:=Lh (fun (w':World) (h1:aU x w' { c with at':=a+1 }) (h2:aK (fun k=>k=x.p) w w') (v:Int)=>mO x w w' { c with at':=a+1 } h1 h2 v)
    ((repeat revert K);refine vg ?_;(repeat with_reducible intro K hK))
    refine (HF.out _ (by exact eP.out) (by exact eF fM.out rfl rfl rfl rfl) _).mono ?_
    rintro e6 w6 ⟨rfl,gD,eQ⟩
    have jS:=Lh gD
    have jU:=Lh eQ
    clear gD eQ
    ((repeat revert K);refine vS ?_;intro K hK)
    (refine cW ?_)
    exact gW.err (w1:=w) (k:=.opn) H.out jS.out jU.out (by rw [a3A.out,if_neg (by rw [hv];simp)];rfl)
  | false=>
   have HH:=Lh (iP x HT.out w2 { c with at':=a } HP.out kA.out [62] (by decide) qJ)
   (revert K;refine vg ?_;(repeat with_reducible intro K hK))
   refine HH.out.mono ?_
   rintro e3 w3 ⟨rfl,eK,cD⟩
   have eP:=Lh (show aU x w3 { c with at':=a } from eK)
   have fM:=Lh (HM.out.trans cD (fun _ _ h=>h))
   clear eK cD HH
   go_simp
   by_cases bB:a<x.T.length
   rotate_left
   ·have HR:=Lh (show sC (x.T.drop c.at')=.error .opn by rw [Wx.out,Yt.out,Ww (by omega)])
    have AG:=Lh (fun kk=>qC x (w3.drewN kk) { c with at':=a } eP.out (by simp;omega))
    clear qJ
    ((repeat revert K);refine vg ?_;(repeat with_reducible intro K hK))
    (refine aI [0,2,0,0,0,0,1,0,0,0,1,0,0,0,0,0,0,0,1,0,0,0,1,0,0,0,0,0,0,0,1,0,0,0,1,0,0,0,0,0,0,0,1,0,0,0,1,0,0,0] [0,1,2,3,4,5,6,7,8,9,10,11,12,13,14,15,16,17,18,19,20,21,22,23,24,25,26,27,28,29,30,31,32,33,34,35,36,37,38,39,40,41,42,43,44,45,46,47,48,49] (by kernel_rfl) (by kernel_rfl) ?_;refine vP ?_;repeat with_reducible intro nq)
    (refine bK rfl rfl (fun nq K hK=>?_);go_simp)
    refine (AG.out _).mono ?_
    rintro e4 w4 ⟨rfl,k4,rfl⟩
    (go_simp;refine hK.out _ _ ?_;clear hK K)
    (refine vP ?_;repeat with_reducible intro nq)
    ((repeat revert K);refine vg ?_;(repeat with_reducible intro K hK))
    refine (RC.out _ (by exact eP.out) (by exact eF fM.out rfl rfl rfl rfl) _).mono ?_
    rintro e6 w6 ⟨rfl,gD,eQ⟩
    have jS:=Lh gD
    have jU:=Lh eQ
    clear gD eQ
    ((repeat revert K);refine vS ?_;(repeat with_reducible intro K hK))
    (refine cW ?_)
    exact gW.err (w1:=w) (k:=.opn) H.out jS.out jU.out (by rw [HR.out];rfl)
   have a3C:=Lh (show ¬ x.T.getD a 0=62 by
    intro hh
    have h9:=cX 62 x.T a bB
    rw [qJ,hh] at h9
    cases h9)
   have AG:=Lh (fun kk=>qD x (w3.drewN kk) { c with at':=a } eP.out bB)
   have t0:(0:Int)≤(a:Int):=by omega
   have t1:(a:Int)<(x.T.length:Int):=by omega
   have w1':IntKind.i64.wrap ((a:Int)+1)=((a+1:Nat):Int):=by rw [IntKind.wrap_i64];have:=HT.out;omega
   obtain ⟨b,hb⟩:∃ b,b=x.T.getD a 0:=⟨_,rfl⟩
   have ix:∀ h,(⟨x.T.toArray⟩:ByteArray)[a]'h=b:=by rw [hb];exact jG x.T a bB
   have pO:=Lh hb
   clear hb qJ
   by_cases gO:b=60∨b=91∨b=34∨b=39
   ·have HR:=Lh (show sC (x.T.drop c.at')=.error .opn by rw [Wx.out,Yt.out,a2x bB a3C.out (by rw [←pO.out];exact gO)])
    rcases gO with rfl|rfl|rfl|rfl
    all_goals
     ((repeat revert K);refine vg ?_;(repeat with_reducible intro K hK))
     (refine aI [0,2,0,0,0,0,1,0,0,0,1,0,0,0,0,0,0,0,1,0,0,0,1,0,0,0,0,0,0,0,1,0,0,0,1,0,0,0,0,0,0,0,1,0,0,0,1,0,0,0] [0,1,2,3,4,5,6,7,8,9,10,11,12,13,14,15,16,17,18,19,20,21,22,23,24,25,26,27,28,29,30,31,32,33,34,35,36,37,38,39,40,41,42,43,44,45,46,47,48,49] (by kernel_rfl) (by kernel_rfl) ?_;refine vP ?_;repeat with_reducible intro nq)
     (refine bK rfl rfl (fun nq K hK=>?_);go_simp)
     refine (AG.out _).mono ?_
     rintro e4 w4 ⟨rfl,k4,rfl⟩
     have hc:=eP.out.cell
     have hf:=eP.out.frozen
     (go_simp;refine hK.out _ _ ?_;clear hK K)
     (refine vP ?_;repeat with_reducible intro nq)
     clear hc hf
     ((repeat revert K);refine vg ?_;(repeat with_reducible intro K hK))
     refine (RC.out _ (by exact eP.out) (by exact eF fM.out rfl rfl rfl rfl) _).mono ?_
     rintro e6 w6 ⟨rfl,gD,eQ⟩
     have jS:=Lh gD
     have jU:=Lh eQ
     clear gD eQ
     ((repeat revert K);refine vS ?_;(repeat with_reducible intro K hK))
     (refine cW ?_)
     exact gW.err (w1:=w) (k:=.opn) H.out jS.out jU.out (by rw [HR.out];rfl)
   ·have n1:((b.toNat:Int)==60)=false:=pP (fun h=>gO (Or.inl h))
    have n2:((b.toNat:Int)==91)=false:=pP (fun h=>gO (Or.inr (Or.inl h)))
    have n3:((b.toNat:Int)==34)=false:=pP (fun h=>gO (Or.inr (Or.inr (Or.inl h))))
    have n4:((b.toNat:Int)==39)=false:=pP (fun h=>gO (Or.inr (Or.inr (Or.inr h))))
    have HD2:=Lh (Yt.out.trans (a2y bB a3C.out (by rw [←pO.out];exact gO)))
    clear gO
    ((repeat revert K);refine vg ?_;(repeat with_reducible intro K hK))
    (refine aI [0,2,0,0,0,0,1,0,0,0,1,0,0,0,0,0,0,0,1,0,0,0,1,0,0,0,0,0,0,0,1,0,0,0,1,0,0,0,0,0,0,0,1,0,0,0,1,0,0,0] [0,1,2,3,4,5,6,7,8,9,10,11,12,13,14,15,16,17,18,19,20,21,22,23,24,25,26,27,28,29,30,31,32,33,34,35,36,37,38,39,40,41,42,43,44,45,46,47,48,49] (by kernel_rfl) (by kernel_rfl) ?_;refine vP ?_;repeat with_reducible intro nq)
    (refine bK rfl rfl (fun nq K hK=>?_);go_simp)
    refine (AG.out _).mono ?_
    rintro e4 w4 ⟨rfl,k4,rfl⟩
    have hc:=eP.out.cell
    have hf:=eP.out.frozen
    (go_simp;refine hK.out _ _ ?_;clear hK K)
    (refine vP ?_;repeat with_reducible intro nq)
    ((repeat revert K);refine vg ?_;intro K hK)
    (refine Kk [0,3] fun f=>?_)
    exact dN.out _ _ ⟨x.T.length-(a+1),by rw [HK.out];omega,HJ.out _ _ _ ⟨f,a+1,rfl,aJ.set (w:=w3.drewN _) (cs:=gV x { c with at':=a }) eP.out 1 _,aK.setCell (S:=fun k=>k=x.p) (fM.out.drewN _) (p:=⟨x.p,1,none⟩) (Or.inl rfl) _,rfl,bB,by have:=sN.out;omega,HD2.out⟩⟩
end Go.Proofs.YtdjdjbpnbjdaaaaGreatDoor
