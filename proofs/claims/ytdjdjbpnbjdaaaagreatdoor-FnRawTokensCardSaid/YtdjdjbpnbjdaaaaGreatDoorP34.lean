/- Part of the proof that laws.FnRawTokens returns true for every argument. No conditions. -/
import Derived.Test.YtdjdjbpnbjdaaaaGreatDoorP28
import Derived.Test.YtdjdjbpnbjdaaaaGreatDoorP29
import Derived.Test.YtdjdjbpnbjdaaaaGreatDoorP10
set_option linter.all false
set_option maxHeartbeats 8000000
set_option maxRecDepth 100000
namespace Go.Proofs.YtdjdjbpnbjdaaaaGreatDoor
open Go Go.RowKit
def Dc (r:Except SV (aP×iV)):Except SV (List aP×iV):=match r with
 | .error e=>.error e
 | .ok (t,s)=>.ok ([t],s)
def Dd (x:PX) (base:Nat):Prop:=∀ (w:World) (c:PC) (opens:List Bs) (bound:List aO) (out:List cH),hY x base w c opens bound out→out.length≤500000000→opens.length≤500000000→bound.length=opens.length→c.at'≤x.T.length→∀ nm:Bs×Bs,nm.1.length≤1000000000→nm.2.length≤1000000000 →
 Calls Tryz.prog 44 #[oM x,aB nm.1,aB nm.2] w (gW x base out w (Dc (iO x.raw x.space ⟨x.T.drop c.at',opens,bound⟩ nm)))
def Lo (x:PX) (base:Nat):Prop:=∀ (w:World) (c:PC) (opens:List Bs) (bound:List aO) (out:List cH),hY x base w c opens bound out→out.length≤499999999→opens.length≤499999999→bound.length=opens.length→c.at'≤x.T.length→∀ nm:Bs×Bs,nm.1.length≤1000000000→nm.2.length≤1000000000 →
 ∀ (ats:List eI) (sa:Option Addr) (sl sc:Nat),ats.length≤1000000000→w.ownsRow base 64 3 (.slice sa sl sc) ats.length (aN ats)→(∀ k,(Value.slice sa sl sc).ownBlock=some k→¬ q9 x c k)→∀ (em:Bool) (o:m7),o.raw=x.raw→o.space=x.space →
 Calls Tryz.prog 53 #[oM x,V5 ((aP.start nm ats).itok []) sa sl sc 0,.bool em] w (gW x base out w (m8 o ⟨x.T.drop c.at',opens,bound⟩ (.start nm ats) em))
theorem G3 (x:PX) (base:Nat) (fT:x.raw=true):Dd x base:=by
 intro w c opens bound out h bF _ _ ha nm _ _
 have hc:=h.blk.cell
 have hf:=h.blk.frozen
 have H:=Lh h
 have HR:=Lh fT
 have HA:=Lh ha
 have bB:=aJ.lt h.blk
 obtain ⟨wa,jY⟩:∃ wa,wa=w.alloc (.cells #[.int .i64 2,aB nm.1,aB nm.2,.slice none 0 0,.string ⟨#[]⟩,.int .i64 0] 61):=⟨_,rfl⟩
 have J7:aU x wa c:=by rw [jY];exact h.blk.alloc _
 have k8:aJ wa w.heap.size #[.int .i64 2,aB nm.1,aB nm.2,.slice none 0 0,.string ⟨#[]⟩,.int .i64 0] 61:=by rw [jY];exact aJ.new w _ _
 have S8:aK (fun _=>False) w wa:=by rw [jY];exact (aK.refl _ w).alloc _
 have FX:=Lh (vK x base w wa c opens bound out h (by omega) c.at' ha (by exact J7) (S8.mono (fun _ _ h=>h.elim)) (.fin nm) rfl (Dc (iO x.raw x.space ⟨x.T.drop c.at',opens,bound⟩ nm)) (by rw [fT];rfl))
 have wT:=J7.cell
 have Pb:=k8.cell
 have hfb:=k8.frozen
 have a2m:(gV x c)[2]?=some (.bool true):=by show some (Value.bool x.raw)=_;rw [fT]
 clear hc hf h ha bF J7 k8 S8 a2m
 refine eJ 70 Tryz.func44 [_,_,_] fun f=>?_
 simp only [aE]
 refine vT 2 ?_
 rw [←jY]
 clear jY
 (refine vg ?_;(repeat with_reducible intro K hK))
 refine FX.out.mono ?_
 rintro e6 w6 ⟨rfl,h6⟩
 have H6:=Lh h6
 clear h6
 ((repeat revert K);refine vS ?_;intro K hK)
 (refine cW ?_)
 exact H6.out
theorem gW.snoc {x:PX} {base:Nat} {out:List cH} {w w3:World} {t t2:aP} {s3:iV} {e:Ending} {w':World} {a:Nat} (hb:Below base w w3) (ha:a≤x.T.length) (hs:s3.rest=x.T.drop a) (h:gW x base (out++[{ t.itok [] with at':=a }]) w3 (.ok ([t2],s3)) e w'):gW x base out w (.ok ([t,t2],s3)) e w':=by
 obtain ⟨h1,h2,c',h3,h4,h5⟩:=h
 refine ⟨hb.trans h1,h2,c',?_,h4,h5⟩
 have e9:c'.at'=a:=by
  have:=congrArg List.length (h5.symm.trans hs)
  rw [List.length_drop,List.length_drop] at this
  omega
 have e8:out++List.map (fun t=>{ t.itok [] with at':=c'.at' }) [t,t2]=(out++[{ t.itok [] with at':=a }])++List.map (fun t=>{ t.itok [] with at':=c'.at' }) [t2]:=by
  simp [e9]
 show hY x base w' c' s3.opens s3.bound (out++List.map (fun t=>{ t.itok [] with at':=c'.at' }) [t,t2])
 rw [e8]
 exact h3
theorem RD (x:PX) (base:Nat) (fT:x.raw=true) (WY:Dd x base):Lo x base:=by
 intro w c opens bound out h bF BG eZ ha nm iL gK ats sa sl sc iE qG Am em o QI Wj
 generalize hp:(aP.start nm ats).itok []=p
 have e1:p.space=nm.1:=by rw [←hp];rfl
 have e2:p.loc=nm.2:=by rw [←hp];rfl
 have J7:p.attrs=ats:=by rw [←hp];rfl
 obtain ⟨wa,jY⟩:∃ wa,wa=w.alloc (.cells #[.int .i64 p.kind,aB nm.1,aB nm.2,.slice sa sl sc,aB p.text,.int .i64 0] 61):=⟨_,rfl⟩
 have S8:aK (fun _=>False) w wa:=by rw [jY];exact (aK.refl _ w).alloc _
 have k8:aJ wa w.heap.size #[.int .i64 p.kind,aB nm.1,aB nm.2,.slice sa sl sc,aB p.text,.int .i64 0] 61:=by rw [jY];exact aJ.new w _ _
 have dA:hY x base wa c opens bound out:=h.fresh S8
 have wT:=dA.blk.cell
 have Pb:=k8.cell
 have gC:=Lh dA
 have SS:=Lh (aG (S:=fun _=>False) qG S8 (fun _ _=>id))
 have HFR:=Lh Am
 have tW:=Lh (show Below base w wa from aK.below (Below.refl _ w) h.size S8 (fun i hi=>hi.elim))
 have cL:=Lh bF
 have HA:=Lh ha
 have xD:=Lh BG
 have o5:=Lh eZ
 have E0:=Lh iL
 have mH:=Lh gK
 have Wk:=Lh WY
 have dB:=Lh (show m8 o ⟨x.T.drop c.at',opens,bound⟩ (.start nm ats) em=if em then .ok ([.start nm ats,.fin nm],⟨x.T.drop c.at',opens,bound⟩) else .ok ([.start nm ats],⟨x.T.drop c.at',opens,bound⟩) by
  unfold m8 x3 iO
  rw [QI,fT]
  cases em<;>rfl)
 have HCR:=Lh (show ∀ s:iV,iO x.raw x.space s nm=.ok (.fin nm,s) from fun s=>by unfold iO;rw [fT];rfl)
 clear h bF BG eZ ha iL gK qG Am S8 k8 dA WY QI Wj
 refine eJ 182 Tryz.func53 [_,_,_] fun f=>?_
 simp only [aE]
 refine vT 1 ?_
 rw [←jY]
 clear jY
 (refine vg ?_;intro K hK)
 go_quiet (fail)
 (revert K;refine vg ?_;(repeat with_reducible intro K hK))
 have a2n:∀ (w':World) (h:hY x base w' c opens bound out) (ha:w'.ownsRow base 64 3 (.slice sa sl sc) p.attrs.length (aN p.attrs)),Calls Tryz.prog 41 #[oM x,.agg #[.int .i64 p.kind,aB nm.1,aB nm.2,.slice sa sl sc,aB p.text,.int .i64 0]] w' fun e w2=>e=.returned (.bool true)∧Below base w' w2∧∃ v',hY x base w2 { c with out:=v' } opens bound (out++[{ p with at':=c.at' }]):=by
  intro w' h ha
  have:=Ch x base w' c opens bound out h (by have:=cL.out;omega) p sa sl sc 0 ha HFR.out
  rw [show V5 p sa sl sc 0=.agg #[.int .i64 p.kind,aB nm.1,aB nm.2,.slice sa sl sc,aB p.text,.int .i64 0] by rw [←e1,←e2]] at this
  exact this
 refine (a2n _ (by exact gC.out.fresh ⟨rfl,rfl,rfl,Nat.le_refl _,fun _ _ _=>rfl⟩) (by rw [J7];exact aG (S:=fun _=>False) SS.out ⟨rfl,rfl,rfl,Nat.le_refl _,fun _ _ _=>rfl⟩ (fun _ _=>id))).mono ?_
 rintro e6 w6 ⟨rfl,xK,v6,h6⟩
 have Yu:=Lh (show Below base w w6 from tW.out.trans ⟨xK.os,xK.tape,xK.output,xK.size,xK.block⟩)
 have H6:=Lh h6
 clear xK h6 a2n wT Pb
 go_simp
 cases em with
 | false=>
  ((repeat revert K);refine vg ?_)
  (refine cW ?_)
  rw [dB.out]
  exact ⟨Yu.out,rfl,{ c with out:=v6 },by simpa [hp] using H6.out,HA.out,rfl⟩
 | true=>
  have HC:=Lh (Wk.out w6 { c with out:=v6 } opens bound _ H6.out (by have:=cL.out;rw [List.length_append];simp;omega) (by have:=xD.out;omega) o5.out HA.out nm E0.out mH.out)
  ((repeat revert K);refine vg ?_;(repeat with_reducible intro K hK))
  refine HC.out.mono ?_
  rintro e7 w7 h7
  rw [HCR.out] at h7
  have h8:gW x base out w (.ok ([.start nm ats,.fin nm],⟨x.T.drop c.at',opens,bound⟩)) e7 w7:=gW.snoc (a:=c.at') Yu.out HA.out rfl (by rw [hp];exact h7)
  obtain ⟨h9,rfl,gN⟩:=h8
  have H8:=Lh (show gW x base out w (.ok ([.start nm ats,.fin nm],⟨x.T.drop c.at',opens,bound⟩)) (.returned (.bool true)) w7 from ⟨h9,rfl,gN⟩)
  clear h7 h9 gN
  ((repeat revert K);refine vS ?_;intro K hK)
  (refine cW ?_)
  rw [dB.out,if_pos rfl]
  exact H8.out
theorem N3 {rest r:Bs} {nm:Bs×Bs} (h:iB rest=.ok (nm,r)):nm.1.length≤rest.length∧nm.2.length≤rest.length:=by
 have hs:=uS rest
 unfold iB at h
 split at h
 ·cases h
 ·split at h
  ·cases h
  ·cases fY:kE (aD rest).1 with
   | none=>rw [fY] at h;cases h
   | some p=>
    obtain ⟨a,b⟩:=p
    rw [fY] at h
    simp only at h
    split at h
    ·cases h
    ·simp only [cI,cC] at h
     have h3:a.length≤(aD rest).1.length∧b.length≤(aD rest).1.length:=by
      unfold kE at fY
      have h4:=congrArg List.length (List.takeWhile_append_dropWhile (p:=(· != (58:UInt8))) (l:=(aD rest).1))
      rw [List.length_append] at h4
      split at fY
      ·simp only [oY,cC] at fY
       rw [←fY.1,←fY.2];simp
      ·rename_i loc hd
       rw [hd,List.length_cons] at h4
       split at fY
       ·cases fY
       ·split at fY
        ·cases fY
        ·simp only [oY,cC] at fY
         rw [←fY.1,←fY.2];omega
     rw [←h.1]
     simp only
     omega
def TJ (raw:Bool) (space:Bs) (opens:List Bs) (bound:List aO) (r:Except SV ((Bs×Bs)×Bs)):Except SV (List aP×iV):=match r with
 | .error e=>.error e
 | .ok (nm,r)=>Dc (iO raw space ⟨r,opens,bound⟩ nm)
theorem gW.base {x:PX} {base:Nat} {out:List cH} {w w1:World} {r:Except SV (List aP×iV)} {e:Ending} {w':World} (hb:Below base w w1) (h:gW x base out w1 r e w'):gW x base out w r e w':=⟨hb.trans h.1,h.2⟩
theorem WE (x:PX) (hT:x.T.length≤1000000000) (base:Nat) (WY:Dd x base) (w:World) (c:PC) (opens:List Bs) (bound:List aO) (out:List cH) (h:hY x base w c opens bound out) (bF:out.length≤500000000) (BG:opens.length≤500000000) (eZ:bound.length=opens.length) (ha:c.at'≤x.T.length) :
  Calls Tryz.prog 20 #[oM x] w (gW x base out w (TJ x.raw x.space opens bound (sD (x.T.drop c.at')))):=by
 have HN:=Lh (J8 x hT w c h.blk ha)
 have H:=Lh h
 have HT:=Lh hT
 have cL:=Lh bF
 have xD:=Lh BG
 have o5:=Lh eZ
 have Wk:=Lh WY
 have HEP:=Lh (show sD (x.T.drop c.at')=match iB (x.T.drop c.at') with
  | .error e=>.error e
  | .ok (nm,r)=>match aM r with
   | []=>.error .bad
   | b::r2=>if b=62 then .ok (nm,r2) else .error .bad from rfl)
 clear h hT bF BG eZ WY ha
 refine eJ 25 Tryz.func20 [_] fun f=>?_
 simp only [aE]
 (refine vg ?_;(repeat with_reducible intro K hK))
 refine HN.out.mono ?_
 rintro e1 w1 ⟨eA,h1⟩
 have oJ:=Lh eA
 cases hn:iB (x.T.drop c.at') with
 | error k=>
  rw [hn] at h1 HEP
  obtain ⟨⟨a1,qH⟩,rfl⟩:=h1
  have KO:=Lh qH
  clear qH eA HN
  ((repeat revert K);refine vS ?_;intro K hK)
  (refine cW ?_)
  exact gW.err (w1:=w) (k:=k) H.out KO.out oJ.out (by rw [HEP.out];rfl)
 | ok q=>
  obtain ⟨nm,r⟩:=q
  have LJ:=Lh (N3 hn)
  rw [hn] at h1 HEP
  obtain ⟨a1,mF,uU,AF,qH,rfl⟩:=h1
  have Db:r=x.T.drop a1:=mF
  subst Db
  have KO:=Lh (show aU x w1 { c with at':=a1 } from qH)
  have Yr:=Lh uU
  have JN:=Lh (oF x HT.out w1 { c with at':=a1 } qH uU)
  clear qH eA HN mF uU AF
  ((repeat revert K);refine vS ?_;(repeat with_reducible intro K hK))
  refine JN.out.mono ?_
  rintro e2 w2 ⟨a2,rfl,mG,iA,EG,DU,mX⟩
  have F7:=Lh (show aU x w2 { c with at':=a2 } from mG)
  have wS:=Lh (oJ.out.trans iA (fun _ _ h=>h))
  have tI:=Lh EG
  have ZC:=Lh (show aM (x.T.drop a1)=x.T.drop a2 from mX)
  clear mG iA EG DU mX JN
  go_simp
  cases qJ:([62]:Bs).isPrefixOf (x.T.drop a2) with
  | true=>
   have HH:=Lh (jE x HT.out w2 { c with at':=a2 } F7.out tI.out [62] (by decide) qJ)
   have bB:=lU qJ (by decide)
   have HR:=Lh (show sD (x.T.drop c.at')=.ok (nm,x.T.drop (a2+1)) by
    have h9:=cX 62 x.T a2 bB
    rw [qJ] at h9
    have gN:x.T.getD a2 0=62:=(beq_iff_eq.1 h9.symm).symm
    rw [HEP.out]
    simp only
    rw [ZC.out,bT x.T a2 bB,gN]
    rfl)
   have zW:=Lh bB
   clear qJ bB
   ((repeat revert K);refine vg ?_;(repeat with_reducible intro K hK))
   refine HH.out.mono ?_
   rintro e3 w3 ⟨rfl,eK,cD⟩
   have eP:=Lh (show aU x w3 { c with at':=a2+1 } from eK)
   have fM:=Lh (wS.out.trans cD (fun _ _ h=>h))
   have dA:=H.out.own eP.out fM.out rfl rfl rfl
   have HC:=Lh (Wk.out w3 { c with at':=a2+1 } opens bound out dA cL.out xD.out o5.out zW.out nm (by have:=LJ.out.1;have:=HT.out;rw [List.length_drop] at *;omega) (by have:=LJ.out.2;have:=HT.out;rw [List.length_drop] at *;omega))
   have HB:=Lh (aK.below (Below.refl base w) H.out.size fM.out (fun i hi=>by rw [hi];exact H.out.pb))
   clear eK cD dA HH
   ((repeat revert K);refine vS ?_;(repeat with_reducible intro K hK))
   refine HC.out.mono ?_
   rintro e4 w4 h4
   have h5:gW x base out w (TJ x.raw x.space opens bound (sD (x.T.drop c.at'))) e4 w4:=by rw [HR.out];exact gW.base HB.out h4
   have hee:∃ b,e4=.returned (.bool b):=by
    obtain ⟨_,h6⟩:=h4
    split at h6
    ·exact ⟨_,h6.1⟩
    ·exact ⟨_,h6.1⟩
   obtain ⟨b,rfl⟩:=hee
   have H5:=Lh h5
   clear h4 h5
   ((repeat revert K);refine vS ?_)
   (refine cW ?_)
   exact H5.out
  | false=>
   have HH:=Lh (iP x HT.out w2 { c with at':=a2 } F7.out tI.out [62] (by decide) qJ)
   have HR:=Lh (show sD (x.T.drop c.at')=.error .bad by
    rw [HEP.out]
    simp only
    rw [ZC.out]
    by_cases KT:a2<x.T.length
    ·have gN:¬ x.T.getD a2 0=62:=by
      intro hh
      have h9:=cX 62 x.T a2 KT
      rw [qJ,hh] at h9
      cases h9
     rw [bT x.T a2 KT]
     simp only [if_neg gN]
    ·rw [List.drop_eq_nil_of_le (by omega)])
   clear qJ
   ((repeat revert K);refine vg ?_;(repeat with_reducible intro K hK))
   refine HH.out.mono ?_
   rintro e3 w3 ⟨rfl,eK,cD⟩
   have fM:=Lh (wS.out.trans cD (fun _ _ h=>h))
   have HF:=Lh (mO x w w3 { c with at':=a2 } eK fM.out 1)
   clear eK cD HH
   ((repeat revert K);refine vS ?_;(repeat with_reducible intro K hK))
   refine HF.out.mono ?_
   rintro e6 w6 ⟨rfl,gD,eQ⟩
   have jS:=Lh gD
   have jU:=Lh eQ
   clear gD eQ
   ((repeat revert K);refine vS ?_;intro K hK)
   (refine cW ?_)
   exact gW.err (w1:=w) (k:=.bad) H.out jS.out jU.out (by rw [HR.out];rfl)
end Go.Proofs.YtdjdjbpnbjdaaaaGreatDoor
namespace Go.Proofs.YtdjdjbpnbjdaaaaGreatDoor
open Go
def lV (o:Option (Bs→Option Bs)) (ents:aO):Prop:=∀ s,yZ o s=iI (qT++ents) s
theorem EI:lV none []:=by
 intro s
 unfold yZ pV iI qT
 simp only [List.append_nil,List.find?]
 by_cases h1:s=[108,116]
 ·subst h1;rfl
 ·by_cases h2:s=[103,116]
  ·subst h2;rfl
  ·by_cases h3:s=[97,109,112]
   ·subst h3;rfl
   ·by_cases h4:s=[97,112,111,115]
    ·subst h4;rfl
    ·by_cases h5:s=[113,117,111,116]
     ·subst h5;rfl
     ·have e:∀ k:Bs,s≠k→(k==s)=false:=fun k hk=>by
       rw [beq_eq_false_iff_ne];exact fun hh=>hk hh.symm
      rw [if_neg h1,if_neg h2,if_neg h3,if_neg h4,if_neg h5,e _ h1,e _ h2,e _ h3,e _ h4,e _ h5]
      rfl
def De (bQ:Bool) (v:Nat) (ds:Bs):Nat:=ds.foldl (fun n b=>n*(if bQ then 16 else 10)+dH b) v
theorem EJ (bQ:Bool):∀ (ds:Bs) (n:Int) (v:Nat),(n=(v:Int)∧v≤1114111)∨(n=-1∧1114111<v)→(∀ c∈ds,eY bQ c=true) →
  ∃ m,bM bQ n ds=some m∧((m=(De bQ v ds:Nat)∧De bQ v ds≤1114111)∨(m=-1∧1114111<De bQ v ds))
 | [],n,v,h,_=>⟨n,rfl,h⟩
 | b::ds,n,v,h,hd=>by
  unfold bM
  rw [if_pos (hd b (by simp))]
  refine EJ bQ ds _ (v*(if bQ then 16 else 10)+dH b) ?_ (fun c hc=>hd c (by simp [hc]))
  rcases h with ⟨rfl,h⟩|⟨rfl,h⟩
  ·rw [if_pos (Int.natCast_nonneg v)]
   by_cases hb:(1114111:Int)<(v:Int)*(if bQ then 16 else 10)+dH b
   ·rw [if_pos hb];refine Or.inr ⟨rfl,?_⟩
    cases bQ<;>simp at hb ⊢<;>omega
   ·rw [if_neg hb];refine Or.inl ⟨?_,?_⟩
    ·cases bQ<;>simp
    ·cases bQ<;>simp at hb ⊢<;>omega
  ·rw [if_neg (by omega),if_neg (by omega)]
   refine Or.inr ⟨rfl,?_⟩
   cases bQ<;>simp<;>omega
theorem EL (bQ:Bool):∀ (ds:Bs) (n m:Int),bM bQ n ds=some m→∀ c∈ds,eY bQ c=true
 | [],_,_,_,c,hc=>by cases hc
 | b::ds,n,m,h,c,hc=>by
  unfold bM at h
  split at h
  ·rename_i hb
   simp only [List.mem_cons] at hc
   rcases hc with rfl|hc
   ·exact hb
   ·exact EL bQ ds _ m h c hc
  ·cases h
theorem Wl {bQ:Bool} {ds:Bs} {n:Int} (h:bM bQ 0 ds=some n) (hr:jW n=true):n.toNat=gL bQ ds∧gL bQ ds≤1114111:=by
 obtain ⟨m,h1,h2⟩:=EJ bQ ds 0 0 (Or.inl ⟨rfl,by omega⟩) (EL bQ ds 0 n h)
 rw [h] at h1
 simp only [oY] at h1
 subst h1
 rcases h2 with ⟨rfl,h2⟩|⟨rfl,_⟩
 ·exact ⟨by simp;rfl,h2⟩
 ·simp [jW] at hr
theorem Ps (bQ:Bool):eY bQ 59=false:=by cases bQ<;>decide
theorem G4 {f bQ:Bool} {pre ds:Bs} {n:Int} (h:bM bQ 0 ds=some n) (hr:jW n=true) (cB:ds≠[]) (after:Bs):dY f bQ pre (ds++59::after)=.ok (pre++ds++[59],some (fN n.toNat),after):=by
 obtain ⟨h1,h2⟩:=Wl h hr
 unfold dY
 rw [ZH bQ ds 59 after (EL bQ ds 0 n h) (Ps bQ)]
 simp only [if_true]
 rw [if_neg (by simp only [cB,false_or];omega),h1]
theorem Pt {l:Bs} (h2:¬ bE l=2) (h1:¬ bE l=1):bE l=0:=by
 rcases L4 l with h9|h9|h9
 ·exact h9
 ·exact absurd h9 h1
 ·exact absurd h9 h2
theorem Wm {f:Bool} {ents:aO} {o:Option (Bs→Option Bs)} {rest t r:Bs} (hE:lV o ents) (h:kF ents rest=.ok (t,r)):∃ a,iX f o rest=.ok (a,some t,r):=by
 unfold kF at h
 cases hu:iY 59 rest with
 | none=>rw [hu] at h;cases h
 | some nm=>
  rw [hu] at h
  cases nm with
  | nil=>cases h
  | cons c tl=>
   simp only at h
   obtain ⟨kV,jL⟩:=GM hu
   rw [List.length_cons] at kV
   generalize rest.drop (tl.length+1+1)=after at kV
   have tX:rest.drop (tl.length+2)=after:=by
    rw [kV,List.cons_append,List.drop_succ_cons,List.drop_append,List.drop_eq_nil_of_le (by omega),List.nil_append,show tl.length+1-tl.length=1 by omega];rfl
   rw [tX] at h
   subst kV
   split at h
   ·rename_i hc
    subst hc
    cases hn:iT tl with
    | none=>rw [hn] at h;cases h
    | some n=>
     rw [hn] at h
     simp only at h
     split at h
     ·rename_i hr
      simp only [cI,cC] at h
      obtain ⟨rfl,rfl⟩:=h
      unfold iT at hn
      cases tl with
      | nil=>cases hn
      | cons d tl2=>
       simp only at hn
       unfold iX
       simp only [List.cons_append,if_true]
       split at hn
       ·rename_i hd
        split at hn
        ·cases hn
        ·rename_i cB
         rw [if_pos hd]
         have h9:=G4 (f:=f) (pre:=[38,35,120]) hn hr cB after
         cases Od:tl2++59::after with
         | nil=>simp at Od
         | cons y ys=>rw [Od] at h9;exact ⟨_,h9⟩
       ·rename_i hd
        rw [if_neg hd]
        exact ⟨_,G4 (f:=f) (pre:=[38,35]) hn hr (by simp) after⟩
     ·cases h
   ·rename_i hc
    split at h
    ·cases h
    ·rename_i k2
     split at h
     ·cases h
     ·rename_i k1
      have k0:bE (c::tl)=0:=Pt k2 k1
      obtain ⟨_,lD,lY⟩:=qA k0
      cases hl:iI (qT++ents) (c::tl) with
      | none=>rw [hl] at h;cases h
      | some x=>
       rw [hl] at h
       simp only [cI,cC] at h
       obtain ⟨rfl,rfl⟩:=h
       have fY:=SG (c::tl) 59 after lY (by decide)
       unfold iX
       simp only [List.cons_append] at fY ⊢
       rw [if_neg hc,fY]
       simp only [if_true]
       rw [if_pos lD,hE,hl]
       exact ⟨_,rfl⟩
theorem Lp {f:Bool} {ents:aO} {o:Option (Bs→Option Bs)} {rest a t r:Bs} (hE:lV o ents) (h:iX f o rest=.ok (a,some t,r)):kF ents rest≠.error .bad:=by
 have rS:∀ {bQ:Bool} {pre l:Bs},dY f bQ pre l=.ok (a,some t,r)→∃ ds,ds≠[]∧l=ds++59::r∧(∀ c∈ds,eY bQ c=true):=by
  intro bQ pre l hh
  obtain ⟨h1,h2⟩:=SH bQ l
  unfold dY at hh
  cases hs:(bV bQ l).2 with
  | nil=>rw [hs] at hh;cases hh
  | cons b after=>
   rw [hs] at hh h1
   simp only at hh
   split at hh
   ·rename_i hb
    subst hb
    simp only [cI,cC] at hh
    obtain ⟨_,hh,rfl⟩:=hh
    split at hh
    ·cases hh
    ·rename_i cB
     exact ⟨(bV bQ l).1,fun h9=>cB (Or.inl h9),h1.symm,h2⟩
   ·simp at hh
 have Pu:∀ {bQ:Bool} {ds:Bs},(∀ c∈ds,eY bQ c=true)→∃ n,bM bQ 0 ds=some n:=by
  intro bQ ds hd
  obtain ⟨m,h1,_⟩:=EJ bQ ds 0 0 (Or.inl ⟨rfl,by omega⟩) hd
  exact ⟨m,h1⟩
 have Lg:∀ {bQ:Bool} {ds:Bs},(∀ c∈ds,eY bQ c=true)→(59:UInt8)∉ds:=fun {bQ} {ds} hd hh=>by
  have:=hd 59 hh
  rw [Ps] at this
  cases this
 unfold iX at h
 cases rest with
 | nil=>cases h
 | cons c r0=>
  simp only at h
  split at h
  ·rename_i hc
   subst hc
   cases r0 with
   | nil=>cases h
   | cons d r2=>
    simp only at h
    split at h
    ·rename_i hd
     subst hd
     cases r2 with
     | nil=>cases h
     | cons e r3=>
      simp only at h
      obtain ⟨ds,cB,hl,OY⟩:=rS h
      obtain ⟨n,hn⟩:=Pu OY
      have hu:iY 59 (35::120::e::r3)=some (35::120::ds):=by
       rw [hl]
       exact B4 (35::120::ds) r (by simp only [List.mem_cons,not_or];exact ⟨by decide,by decide,Lg OY⟩)
      unfold kF
      rw [hu]
      simp only [if_true]
      have o4:iT (120::ds)=some n:=by unfold iT;simp only [if_true];rw [if_neg cB];exact hn
      rw [o4]
      simp only
      split<;>simp
    ·rename_i hd
     obtain ⟨ds,cB,hl,OY⟩:=rS h
     obtain ⟨n,hn⟩:=Pu OY
     cases ds with
     | nil=>exact absurd rfl cB
     | cons d' ds'=>
      simp only [List.cons_append,List.cons.injEq] at hl
      obtain ⟨rfl,hl⟩:=hl
      have hu:iY 59 (35::d::r2)=some (35::d::ds'):=by
       rw [hl]
       exact B4 (35::d::ds') r (by simp only [List.mem_cons,not_or];have:=Lg OY;simp only [List.mem_cons,not_or] at this;exact ⟨by decide,this.1,this.2⟩)
      unfold kF
      rw [hu]
      simp only [if_true]
      have o4:iT (d::ds')=some n:=by unfold iT;simp only;rw [if_neg hd];exact hn
      rw [o4]
      simp only
      split<;>simp
  ·rename_i hc
   obtain ⟨h1,h2⟩:=uA (c::r0)
   cases hs:(aD (c::r0)).2 with
   | nil=>rw [hs] at h;cases h
   | cons b after=>
    rw [hs] at h h1
    simp only at h
    split at h
    ·rename_i hb
     subst hb
     simp only [cI,cC] at h
     obtain ⟨_,h,rfl⟩:=h
     split at h
     ·rename_i lD
      generalize (aD (c::r0)).1=nm at *
      cases nm with
      | nil=>simp [cQ] at lD
      | cons c' nm'=>
       simp only [List.cons_append,List.cons.injEq] at h1
       obtain ⟨rfl,h1⟩:=h1
       have hu:iY 59 (c'::r0)=some (c'::nm'):=by
        rw [←h1]
        exact B4 (c'::nm') after (fun hh=>by have:=h2 59 hh;simp [cP,jZ] at this)
       unfold kF
       rw [hu]
       simp only
       rw [if_neg hc]
       split
       ·simp
       ·split
        ·rename_i k1
         rw [x5 k1] at lD;cases lD
        ·rw [hE] at h;rw [h];simp
     ·cases h
    ·simp at h
theorem BK (o:cU) (q:Option UInt8) (cd:Bool):∀ (n:Nat) (rest:Bs),rest.length≤n→∀ (b0 b1:UInt8) (buf d r:Bs),aX o q cd rest b0 b1 buf=.ok (d,r)→bI d=true:=by
 intro n
 induction n with
 | zero=>
  intro rest hn b0 b1 buf d r h
  have:rest=[]:=List.eq_nil_of_length_eq_zero (by omega)
  subst this
  unfold aX at h
  split at h
  ·cases h
  ·split at h
   ·rename_i hc;simp only [cI,cC] at h;rw [←h.1];exact hc
   ·cases h
 | succ n ih=>
  intro rest hn b0 b1 buf d r h
  cases rest with
  | nil=>
   unfold aX at h
   split at h
   ·cases h
   ·split at h
    ·rename_i hc;simp only [cI,cC] at h;rw [←h.1];exact hc
    ·cases h
  | cons b t=>
   have ht:t.length≤n:=by simp at hn;omega
   unfold aX at h
   split at h
   ·split at h
    ·split at h
     ·rename_i hc;simp only [cI,cC] at h;rw [←h.1];exact hc
     ·cases h
    ·cases h
   ·split at h
    ·split at h
     ·split at h
      ·rename_i hc;simp only [cI,cC] at h;rw [←h.1];exact hc
      ·cases h
     ·cases h
    ·split at h
     ·split at h
      ·rename_i hc;simp only [cI,cC] at h;rw [←h.1];exact hc
      ·cases h
     ·split at h
      ·split at h
       ·cases h
       ·rename_i hr
        have hs:=gX hr
        exact ih _ (by omega) _ _ _ _ _ h
       ·rename_i hr
        have hs:=gX hr
        split at h
        ·cases h
        ·exact ih _ (by omega) _ _ _ _ _ h
      ·exact ih _ ht _ _ _ _ _ h
theorem WF (o:cU) (q:Option UInt8):∀ (n:Nat) (rest:Bs),rest.length≤n→∀ (b0 b1:UInt8) (buf d r:Bs),aX o q false rest b0 b1 buf=.ok (d,r)→∃ w,d=buf++w:=by
 intro n
 induction n with
 | zero=>
  intro rest hn b0 b1 buf d r h
  have:rest=[]:=List.eq_nil_of_length_eq_zero (by omega)
  subst this
  rw [kQ] at h
  simp only [Bool.false_eq_true,if_false] at h
  split at h
  ·simp only [cI,cC] at h;exact ⟨[],by simp [h.1]⟩
  ·cases h
 | succ n ih=>
  intro rest hn b0 b1 buf d r h
  cases rest with
  | nil=>
   rw [kQ] at h
   simp only [Bool.false_eq_true,if_false] at h
   split at h
   ·simp only [cI,cC] at h;exact ⟨[],by simp [h.1]⟩
   ·cases h
  | cons b t=>
   have ht:t.length≤n:=by simp at hn;omega
   have more:∀ {x:Bs},(∃ w,d=(buf++x)++w)→∃ w,d=buf++w:=fun {x} ⟨w,hw⟩=>⟨x++w,by rw [hw,List.append_assoc]⟩
   unfold aX at h
   split at h
   ·simp only [Bool.false_eq_true,if_false] at h;cases h
   ·split at h
    ·split at h
     ·split at h
      ·simp only [cI,cC] at h;exact ⟨[],by simp [h.1]⟩
      ·cases h
     ·cases h
    ·split at h
     ·split at h
      ·simp only [cI,cC] at h;exact ⟨[],by simp [h.1]⟩
      ·cases h
     ·split at h
      ·split at h
       ·cases h
       ·rename_i hr
        have hs:=gX hr
        exact more (ih _ (by omega) _ _ _ _ _ h)
       ·rename_i hr
        have hs:=gX hr
        split at h
        ·cases h
        ·exact more (ih _ (by omega) _ _ _ _ _ h)
      ·have h9:=ih _ ht _ _ _ _ _ h
       split at h9
       ·exact more h9
       ·split at h9
        ·exact h9
        ·exact more h9
def sV (o:cU):Prop:=∀ l a t r,iX o.fails o.ents l=.ok (a,some t,r)→t≠[]∧t.takeWhile eR=[]
theorem KF {p:UInt8→Bool} {t:Bs} (h:t≠[]) (h2:t.takeWhile p=[]) (y:Bs):(t++y).takeWhile p=[]:=by
 cases t with
 | nil=>exact absurd rfl h
 | cons c t=>
  by_cases hc:p c=true
  ·rw [List.takeWhile_cons_of_pos hc] at h2;cases h2
  ·rw [List.cons_append,List.takeWhile_cons_of_neg hc]
theorem WG (o:cU) (dA:o.strict=true) (cB:sV o) (q:Option UInt8) (hq:∀ c,q=some c→c.toNat<128):∀ (n:Nat) (rest:Bs),rest.length≤n→∀ (b0 b1:UInt8) (buf d r:Bs),b1≠13→aX o q false rest b0 b1 buf=.ok (d,r)→∃ w,d=buf++w∧w.takeWhile eR=rest.takeWhile eR:=by
 intro n
 induction n with
 | zero=>
  intro rest hn b0 b1 buf d r _ h
  have:rest=[]:=List.eq_nil_of_length_eq_zero (by omega)
  subst this
  rw [kQ] at h
  simp only [Bool.false_eq_true,if_false] at h
  split at h
  ·simp only [cI,cC] at h;exact ⟨[],by simp [h.1],rfl⟩
  ·cases h
 | succ n ih=>
  intro rest hn b0 b1 buf d r bP h
  cases rest with
  | nil=>
   rw [kQ] at h
   simp only [Bool.false_eq_true,if_false] at h
   split at h
   ·simp only [cI,cC] at h;exact ⟨[],by simp [h.1],rfl⟩
   ·cases h
  | cons b t=>
   have ht:t.length≤n:=by simp at hn;omega
   have jL:∀ {c:UInt8},c.toNat<128→∀ y:Bs,([]:Bs).takeWhile eR=(c::y).takeWhile eR:=fun {c} hc y=>by
    rw [List.takeWhile_cons_of_neg (by unfold eR;simp;omega)];rfl
   unfold aX at h
   split at h
   ·rename_i hh;simp only [Bool.false_eq_true,if_false] at h;cases h
   ·split at h
    ·rename_i hh
     split at h
     ·split at h
      ·simp only [cI,cC] at h;exact ⟨[],by simp [h.1],jL (by rw [hh.1];decide) t⟩
      ·cases h
     ·cases h
    ·split at h
     ·rename_i Fo
      split at h
      ·simp only [cI,cC] at h;exact ⟨[],by simp [h.1],jL (hq b Fo) t⟩
      ·cases h
     ·split at h
      ·rename_i hh
       split at h
       ·cases h
       ·rename_i a x r2 hr
        have hs:=gX hr
        obtain ⟨w,hw,_⟩:=ih _ (by omega) _ _ _ _ _ (by decide) h
        obtain ⟨h1,h2⟩:=cB _ _ _ _ hr
        refine ⟨x++w,by rw [hw,List.append_assoc],?_⟩
        rw [KF h1 h2]
        exact jL (by rw [hh.1];decide) t
       ·first|cases h|(rw [if_pos dA] at h;cases h)
      ·by_cases fZ:b=13
       ·rw [if_pos fZ] at h
        have hw:∃ w,d=buf++[10]++w:=by
         have:=WF o q n t ht b1 b (buf++[10]) d r h
         exact this
        obtain ⟨w,hw⟩:=hw
        refine ⟨10::w,by rw [hw];simp,?_⟩
        rw [←jL (by rw [fZ];decide) t,←jL (by decide) w]
       ·rw [if_neg fZ,if_neg (fun hh=>bP hh.1)] at h
        obtain ⟨w,hw,h2⟩:=ih _ ht _ _ _ _ _ fZ h
        refine ⟨b::w,by rw [hw];simp,?_⟩
        by_cases hc:eR b=true
        ·rw [List.takeWhile_cons_of_pos hc,List.takeWhile_cons_of_pos hc,h2]
        ·rw [List.takeWhile_cons_of_neg hc,List.takeWhile_cons_of_neg hc]
theorem CM (a:Nat) (y:Bs) (h1:a<256) (h2:a / 64≠2):(UInt8.ofNat a::y)≠[]∧(UInt8.ofNat a::y).takeWhile eR=[]:=by
 refine ⟨by simp,List.takeWhile_cons_of_neg ?_⟩
 unfold eR
 rw [UInt8.toNat_ofNat',Nat.mod_eq_of_lt (by omega)]
 simpa using h2
theorem Wn (c:Nat) (hc:c<2097152):∀ l:Bs,l=(if c<128 then [UInt8.ofNat c] else if c<2048 then [UInt8.ofNat (192+c / 64),UInt8.ofNat (128+c % 64)] else if c<65536 then [UInt8.ofNat (224+c / 4096),UInt8.ofNat (128+c / 64 % 64),UInt8.ofNat (128+c % 64)] else [UInt8.ofNat (240+c / 262144),UInt8.ofNat (128+c / 4096 % 64),UInt8.ofNat (128+c / 64 % 64),UInt8.ofNat (128+c % 64)])→l≠[]∧l.takeWhile eR=[]:=by
 intro l hl
 subst hl
 by_cases h1:c<128
 ·rw [if_pos h1];exact CM _ _ (by omega) (by omega)
 ·rw [if_neg h1]
  by_cases h2:c<2048
  ·rw [if_pos h2];exact CM _ _ (by omega) (by omega)
  ·rw [if_neg h2]
   by_cases h3:c<65536
   ·rw [if_pos h3];exact CM _ _ (by omega) (by omega)
   ·rw [if_neg h3];exact CM _ _ (by omega) (by omega)
theorem Df (c:Nat):(if c<0x80 then (⟨#[UInt8.ofNat c]⟩:ByteArray)
 else if c<0x800 then ⟨#[UInt8.ofNat (0xC0+c / 64),UInt8.ofNat (0x80+c % 64)]⟩
 else if c<0x10000 then ⟨#[UInt8.ofNat (0xE0+c / 4096),UInt8.ofNat (0x80+c / 64 % 64),UInt8.ofNat (0x80+c % 64)]⟩
 else ⟨#[UInt8.ofNat (0xF0+c / 262144),UInt8.ofNat (0x80+c / 4096 % 64),UInt8.ofNat (0x80+c / 64 % 64),UInt8.ofNat (0x80+c % 64)]⟩).data.toList=(if c<128 then [UInt8.ofNat c] else if c<2048 then [UInt8.ofNat (192+c / 64),UInt8.ofNat (128+c % 64)] else if c<65536 then [UInt8.ofNat (224+c / 4096),UInt8.ofNat (128+c / 64 % 64),UInt8.ofNat (128+c % 64)] else [UInt8.ofNat (240+c / 262144),UInt8.ofNat (128+c / 4096 % 64),UInt8.ofNat (128+c / 64 % 64),UInt8.ofNat (128+c % 64)]):=by
 by_cases h1:c<128
 ·rw [if_pos h1,if_pos h1]
 ·rw [if_neg h1,if_neg h1]
  by_cases h2:c<2048
  ·rw [if_pos h2,if_pos h2]
  ·rw [if_neg h2,if_neg h2]
   by_cases h3:c<65536
   ·rw [if_pos h3,if_pos h3]
   ·rw [if_neg h3,if_neg h3]
theorem Lq (r:Int) (hv:Utf8.valid r=true):(Utf8.encode r).data.toList=(if r.toNat<128 then [UInt8.ofNat r.toNat] else if r.toNat<2048 then [UInt8.ofNat (192+r.toNat / 64),UInt8.ofNat (128+r.toNat % 64)] else if r.toNat<65536 then [UInt8.ofNat (224+r.toNat / 4096),UInt8.ofNat (128+r.toNat / 64 % 64),UInt8.ofNat (128+r.toNat % 64)] else [UInt8.ofNat (240+r.toNat / 262144),UInt8.ofNat (128+r.toNat / 4096 % 64),UInt8.ofNat (128+r.toNat / 64 % 64),UInt8.ofNat (128+r.toNat % 64)]):=by
 rw [←Df]
 simp only [Utf8.encode,hv,if_true]
theorem Lr (r:Int) (hv:Utf8.valid r=false):(Utf8.encode r).data.toList=[239,191,189]:=by
 simp only [Utf8.encode,hv,Bool.false_eq_true,if_false,Utf8.runeError]
 decide
theorem Ls (r:Int) (h0:r.toNat<2097152):(Utf8.encode r).data.toList≠[]∧(Utf8.encode r).data.toList.takeWhile eR=[]:=by
 cases hv:Utf8.valid r with
 | true=>exact Wn r.toNat h0 _ (Lq r hv)
 | false=>
  rw [Lr r hv]
  exact ⟨by simp,by decide +kernel⟩
theorem Lt (n:Nat) (h:n<2097152):fN n≠[]∧(fN n).takeWhile eR=[]:=by
 have h9:(n:Int).toNat<2097152:=by rw [Int.toNat_natCast];exact h
 have h8:=Ls (n:Int) h9
 have e:fN n=(Utf8.encode (n:Int)).data.toList:=by rw [fN]
 rw [e]
 exact h8
theorem G5 {f bQ:Bool} {pre l a t r:Bs} (h:dY f bQ pre l=.ok (a,some t,r)):t≠[]∧t.takeWhile eR=[]:=by
 unfold dY at h
 split at h
 ·cases h
 ·split at h
  ·simp only [cI,cC] at h
   obtain ⟨_,h,_⟩:=h
   split at h
   ·cases h
   ·simp only [oY] at h;subst h;rename_i hh;exact Lt _ (by simp only [not_or] at hh;omega)
  ·simp at h
theorem Dg {o:cU} (h:∀ s t,yZ o.ents s=some t→t≠[]∧t.takeWhile eR=[]):sV o:=by
 intro l a t r hr
 unfold iX at hr
 split at hr
 ·cases hr
 ·split at hr
  ·split at hr
   ·cases hr
   ·split at hr
    ·split at hr
     ·cases hr
     ·exact G5 hr
    ·exact G5 hr
  ·split at hr
   ·cases hr
   ·split at hr
    ·simp only [cI,cC] at hr
     obtain ⟨_,hr,_⟩:=hr
     split at hr
     ·exact h _ _ hr
     ·cases hr
    ·simp at hr
theorem RE {o:cU} (h:o.ents=none):sV o:=by
 refine Dg fun s t ht=>?_
 have hs:pV s=some t:=by
  rw [h] at ht
  unfold yZ at ht
  cases hs:pV s with
  | none=>rw [hs] at ht;cases ht
  | some x=>rw [hs] at ht;exact ht
 unfold pV at hs
 repeat' split at hs
 all_goals first
  | (simp only [oY] at hs;subst hs;exact ⟨by simp,by decide +kernel⟩)
  | cases hs
structure Lu (rest:Bs) (b0 b1:UInt8):Prop where
 cr:b1=13→rest.head?≠some 10
 e1:b0=93→b1=93→rest.head?≠some 62
 e2:b1=93→[93,62].isPrefixOf rest=false
theorem Lu.of {rest:Bs} {b0 b1:UInt8} (h1:b1≠13) (h2:b1≠93):Lu rest b0 b1:=⟨fun h=>absurd h h1,fun _ h=>absurd h h2,fun h=>absurd h h2⟩
theorem Lu.next {b:UInt8} {r:Bs} {b0 b1:UInt8} (h:Lu (b::r) b0 b1) (hb:b≠13) (hs:pZ.isPrefixOf (b::r)=false):Lu r b1 b:=by
 refine ⟨fun hh=>absurd hh hb,fun h1 h2 hh=>?_,fun h2=>?_⟩
 ·subst h2
  have:=h.e2 h1
  cases r with
  | nil=>cases hh
  | cons c r=>
   simp only [List.head?_cons,oY] at hh
   subst hh
   simp [List.isPrefixOf] at this
 ·subst h2
  cases hh:[93,62].isPrefixOf r with
  | false=>rfl
  | true=>rw [show pZ.isPrefixOf (93::r)=[93,62].isPrefixOf r by simp [pZ],hh] at hs;cases hs
theorem EM (o:cU) (q:Option UInt8) (hq:∀ c,q=some c→c.toNat<128) (cd:Bool):∀ (xs rest:Bs) (b0 b1:UInt8) (buf:Bs),(∀ c∈xs,128≤c.toNat)→128≤b1.toNat→∃ b0' b1',128≤b1'.toNat∧aX o q cd (xs++rest) b0 b1 buf=aX o q cd rest b0' b1' (buf++xs)
 | [],rest,b0,b1,buf,_,h=>⟨b0,b1,h,by simp⟩
 | c::xs,rest,b0,b1,buf,hx,h=>by
  have hc:=hx c (by simp)
  have ne:∀ k:UInt8,k.toNat<128→c≠k:=fun k hk hh=>by subst hh;omega
  obtain ⟨b0',b1',h1,h2⟩:=EM o q hq cd xs rest b1 c (buf++[c]) (fun d hd=>hx d (by simp [hd])) hc
  refine ⟨b0',b1',h1,?_⟩
  rw [List.cons_append,bZ o q cd c _ b0 b1 buf (fun hh=>ne 62 (by decide) hh.2.2.2) (fun hh=>ne 60 (by decide) hh.1) (fun hh=>by have:=hq c hh;omega) (fun hh=>ne 38 (by decide) hh.1)]
  rw [show fP c b1 buf=buf++[c] by unfold fP;rw [if_neg (ne 13 (by decide)),if_neg (fun hh=>ne 10 (by decide) hh.2)],h2]
  simp
theorem Wo {b:UInt8} (h:128≤b.toNat):b≠13∧b≠93:=by
 refine ⟨fun hh=>?_,fun hh=>?_⟩
 ·subst hh;simp at h
 ·subst hh;simp at h
theorem KG (o:cU) (q:Option UInt8) (hq:∀ c,q=some c→c.toNat<128) (cd:Bool) {b:UInt8} {r:Bs} (h1:(aF (b::r)).2≠0) (h2:bU (aF (b::r)).1=true) {b0 b1:UInt8} (buf:Bs)
  (p1:¬ (q=none∧b0=93∧b1=93∧b=62)) (p2:¬ (b=60∧cd=false)) (p3:q≠some b) (p4:b≠13) (p5:¬ (b1=13∧b=10)) (p6:¬ (b=38∧cd=false)) :
  ∃ b0' b1',aX o q cd (b::r) b0 b1 buf=aX o q cd ((b::r).drop (aF (b::r)).2) b0' b1' (buf++(b::r).take (aF (b::r)).2)∧bI ((b::r).take (aF (b::r)).2)=true∧((b::r).drop (aF (b::r)).2).length≤r.length ∧
   ((b.toNat<128∧(b::r).drop (aF (b::r)).2=r∧b0'=b1∧b1'=b)∨(b1'≠13∧b1'≠93)):=by
 obtain ⟨hc,_⟩:=UO h2 h1
 have dA:fP b b1 buf=buf++[b]:=by unfold fP;rw [if_neg p4,if_neg p5]
 by_cases hb:b.toNat<128
 ·refine ⟨b1,b,?_,hc,?_,Or.inl ⟨hb,?_,rfl,rfl⟩⟩
  ·rw [lN hb,bZ o q cd b r b0 b1 buf p1 p2 p3 p6,dA];simp
  ·rw [lN hb];simp
  ·rw [lN hb];simp
 ·rcases qV (b:=b) (by omega) r with h9|⟨x,k,h9,_,h3,_,h4,h5⟩
  ·rw [h9] at h1;simp at h1
  ·obtain ⟨b0',b1',h6,h7⟩:=EM o q hq cd (r.take k) (r.drop k) b1 b (buf++[b]) (fun c hc=>by have:=h5 c hc;simp only [eR,beq_iff_eq] at this;omega) (by omega)
   rw [List.take_append_drop] at h7
   refine ⟨b0',b1',?_,hc,?_,Or.inr (Wo h6)⟩
   ·rw [h9,bZ o q cd b r b0 b1 buf p1 p2 p3 p6,dA,h7];simp
   ·rw [h9];simp
theorem Dh (o:cU) (dA:o.strict=true) (cB:sV o) (q:Option UInt8) (hq:∀ c,q=some c→c.toNat<128) {b:UInt8} {r:Bs} (h1:(aF (b::r)).2=0∨bU (aF (b::r)).1=false) {b0 b1:UInt8} {buf:Bs} (hb:bI buf=true)
  (p1:¬ (q=none∧b0=93∧b1=93∧b=62)) (p2:¬ (b=60∧false=false)) (p3:q≠some b) (p4:b≠13) (p5:¬ (b1=13∧b=10)) (p6:¬ (b=38∧false=false)) (d r2:Bs):aX o q false (b::r) b0 b1 buf≠.ok (d,r2):=by
 intro h
 have hc:=BK o q false _ _ (Nat.le_refl _) _ _ _ _ _ h
 rw [bZ o q false b r b0 b1 buf p1 p2 p3 p6,show fP b b1 buf=buf++[b] by unfold fP;rw [if_neg p4,if_neg p5]] at h
 obtain ⟨w,hw,n7⟩:=WG o dA cB q hq _ _ (Nat.le_refl _) _ _ _ _ _ p4 h
 rw [hw,List.append_assoc,jX hb,List.singleton_append,GJ h1 n7] at hc
 cases hc
theorem EN (ents:aO) {b:UInt8} (hb:b≠38) (r:Bs):fR ents (b::r)=if (aF (b::r)).2=0∨bU (aF (b::r)).1=false then .error .bad else .ok ((b::r).take (aF (b::r)).2,(b::r).drop (aF (b::r)).2):=by
 rw [fR,if_neg hb]
theorem G6 (ents:aO) (r:Bs):fR ents (38::r)=match kF ents r with
  | .error e=>.error e
  | .ok (t,r2)=>if bI t then .ok (t,r2) else .error .opn:=by
 rw [fR,if_pos rfl]
 cases kF ents r<;>rfl
theorem CN (o:cU) {ents:aO} (hE:lV o.ents ents) (q:Option UInt8) (hq:∀ c,q=some c→c.toNat<128) {b:UInt8} {r t r2:Bs} (h:fR ents (b::r)=.ok (t,r2)) {b0 b1:UInt8} (buf:Bs)
  (p1:¬ (q=none∧b0=93∧b1=93∧b=62)) (p2:b≠60) (p3:q≠some b) (p4:b≠13) (p5:¬ (b1=13∧b=10)) :
  ∃ b0' b1',aX o q false (b::r) b0 b1 buf=aX o q false r2 b0' b1' (buf++t)∧bI t=true∧r2.length≤r.length∧((b.toNat<128∧r2=r∧b0'=b1∧b1'=b)∨(b1'≠13∧b1'≠93)):=by
 by_cases hb:b=38
 ·subst hb
  rw [G6] at h
  cases hr:kF ents r with
  | error e=>rw [hr] at h;cases h
  | ok x=>
   obtain ⟨t',r'⟩:=x
   rw [hr] at h
   simp only at h
   split at h
   ·rename_i hc
    simp only [cI,cC] at h
    obtain ⟨rfl,rfl⟩:=h
    obtain ⟨a,ha⟩:=Wm (f:=o.fails) hE hr
    refine ⟨0,0,?_,hc,gX ha,Or.inr ⟨by decide,by decide⟩⟩
    rw [zH o q r b0 b1 buf p3,ha]
   ·cases h
 ·rw [EN ents hb] at h
  split at h
  ·cases h
  ·rename_i hh
   simp only [not_or] at hh
   simp only [cI,cC] at h
   obtain ⟨rfl,rfl⟩:=h
   exact KG o q hq false hh.1 (by simpa using hh.2) buf p1 (fun h=>p2 h.1) p3 p4 p5 (fun h=>hb h.1)
theorem N4 (o:cU) {ents:aO} (hE:lV o.ents ents) (dA:o.strict=true) (cB:sV o) (q:Option UInt8) (hq:∀ c,q=some c→c.toNat<128) {b:UInt8} {r:Bs} (h:fR ents (b::r)=.error .bad) {b0 b1:UInt8} {buf:Bs} (hc:bI buf=true)
  (p1:¬ (q=none∧b0=93∧b1=93∧b=62)) (p2:b≠60) (p3:q≠some b) (p4:b≠13) (p5:¬ (b1=13∧b=10)) (d r2:Bs):aX o q false (b::r) b0 b1 buf≠.ok (d,r2):=by
 by_cases hb:b=38
 ·subst hb
  rw [G6] at h
  have hr:kF ents r=.error .bad:=by
   cases hr:kF ents r with
   | error e=>rw [hr] at h;simpa using h
   | ok x=>
    obtain ⟨t',r'⟩:=x
    rw [hr] at h
    simp only at h
    split at h
    ·cases h
    ·cases h
  rw [zH o q r b0 b1 buf p3]
  cases hl:iX o.fails o.ents r with
  | error e=>simp
  | ok x=>
   obtain ⟨a,t,r'⟩:=x
   cases t with
   | none=>simp only;rw [if_pos dA];simp
   | some t=>exact absurd hr (Lp hE hl)
 ·rw [EN ents hb] at h
  split at h
  ·rename_i hh
   exact Dh o dA cB q hq hh hc p1 (fun h=>p2 h.1) p3 p4 p5 (fun h=>hb h.1) d r2
  ·cases h
theorem EO:∀ c:UInt8,(none:Option UInt8)=some c→c.toNat<128:=fun _ h=>by cases h
theorem N5 {l:Bs} (h:pZ.isPrefixOf l=true):∃ r,l=93::93::62::r:=by
 obtain ⟨r,hr⟩:=List.isPrefixOf_iff_prefix.1 h
 exact ⟨r,by rw [←hr];rfl⟩
theorem iJ {buf:Bs} (h:bI buf=true):bI (buf++[10])=true:=by
 rw [jX h,zM (by decide),jF];decide
theorem yN (o:cU) {ents:aO} (hE:lV o.ents ents):∀ (k:Nat) (rest:Bs) (b0 b1:UInt8) (buf d r:Bs),dK ents k rest buf=.ok (d,r)→Lu rest b0 b1→bI buf=true→aX o none false rest b0 b1 buf=.ok (d,r)
 | 0,_,_,_,_,_,_,h,_,_=>by unfold dK at h;cases h
 | k+1,[],b0,b1,buf,d,r,h,_,hc=>by
  unfold dK at h
  simp only [cI,cC] at h
  obtain ⟨rfl,rfl⟩:=h
  rw [kQ,if_neg (by simp),if_pos hc]
 | k+1,b::t,b0,b1,buf,d,r,h,hi,hc=>by
  unfold dK at h
  simp only at h
  split at h
  ·rename_i hb
   subst hb
   simp only [cI,cC] at h
   obtain ⟨rfl,rfl⟩:=h
   rw [DE,if_pos rfl,if_pos hc]
  ·rename_i lA
   split at h
   ·cases h
   ·rename_i rE
    have RF:pZ.isPrefixOf (b::t)=false:=Bool.eq_false_iff.2 rE
    split at h
    ·rename_i fZ
     subst fZ
     have e1:aX o none false (13::t) b0 b1 buf=aX o none false t b1 13 (buf++[10]):=by
      rw [bZ o none false 13 t b0 b1 buf (by simp) (by simp) (by simp) (by simp)];rfl
     rw [e1]
     cases t with
     | nil=>exact yN o hE k [] b1 13 _ d r h ⟨fun _=>by simp,fun _ h=>by simp at h,fun h=>by simp at h⟩ (iJ hc)
     | cons c r2=>
      simp only at h
      split at h
      ·rename_i gN
       subst gN
       rw [bZ o none false 10 r2 b1 13 _ (by simp) (by simp) (by simp) (by simp),show fP 10 13 (buf++[10])=buf++[10] from rfl]
       exact yN o hE k r2 13 10 _ d r h (.of (by decide) (by decide)) (iJ hc)
      ·rename_i gN
       exact yN o hE k (c::r2) b1 13 _ d r h ⟨fun _ hh=>gN (by simpa using hh),fun _ h=>by simp at h,fun h=>by simp at h⟩ (iJ hc)
    ·rename_i fZ
     cases hd:fR ents (b::t) with
     | error e=>rw [hd] at h;cases h
     | ok x=>
      obtain ⟨y,r2⟩:=x
      rw [hd] at h
      simp only at h
      obtain ⟨b0',b1',e1,e2,_,e3⟩:=CN o hE none EO hd (b0:=b0) (b1:=b1) buf (fun hh=>hi.e1 hh.2.1 hh.2.2.1 (by rw [hh.2.2.2];rfl)) lA (by simp) fZ (fun hh=>hi.cr hh.1 (by rw [hh.2];rfl))
      rw [e1]
      refine yN o hE k r2 b0' b1' _ d r h ?_ (by rw [jX hc];exact e2)
      rcases e3 with ⟨_,rfl,rfl,rfl⟩|⟨e3,e4⟩
      ·exact hi.next fZ RF
      ·exact .of e3 e4
theorem uW (o:cU) {ents:aO} (hE:lV o.ents ents) (dA:o.strict=true) (cB:sV o):∀ (k:Nat) (rest:Bs) (b0 b1:UInt8) (buf:Bs),dK ents k rest buf=.error .bad→Lu rest b0 b1→bI buf=true→∀ d r,aX o none false rest b0 b1 buf≠.ok (d,r)
 | 0,_,_,_,_,h,_,_=>by unfold dK at h;cases h
 | k+1,[],b0,b1,buf,h,_,hc=>by unfold dK at h;cases h
 | k+1,b::t,b0,b1,buf,h,hi,hc=>by
  intro d r
  unfold dK at h
  simp only at h
  split at h
  ·cases h
  ·rename_i lA
   split at h
   ·rename_i rE
    obtain ⟨t',ht⟩:=N5 rE
    simp only [List.cons.injEq] at ht
    obtain ⟨rfl,rfl⟩:=ht
    rw [bZ o none false 93 _ b0 b1 buf (by simp) (by simp) (by simp) (by simp),bZ o none false 93 _ b1 93 _ (by simp) (by simp) (by simp) (by simp),vD]
    simp
   ·rename_i rE
    have RF:pZ.isPrefixOf (b::t)=false:=Bool.eq_false_iff.2 rE
    split at h
    ·rename_i fZ
     subst fZ
     have e1:aX o none false (13::t) b0 b1 buf=aX o none false t b1 13 (buf++[10]):=by
      rw [bZ o none false 13 t b0 b1 buf (by simp) (by simp) (by simp) (by simp)];rfl
     rw [e1]
     cases t with
     | nil=>exact uW o hE dA cB k [] b1 13 _ h ⟨fun _=>by simp,fun _ h=>by simp at h,fun h=>by simp at h⟩ (iJ hc) d r
     | cons c r2=>
      simp only at h
      split at h
      ·rename_i gN
       subst gN
       rw [bZ o none false 10 r2 b1 13 _ (by simp) (by simp) (by simp) (by simp),show fP 10 13 (buf++[10])=buf++[10] from rfl]
       exact uW o hE dA cB k r2 13 10 _ h (.of (by decide) (by decide)) (iJ hc) d r
      ·rename_i gN
       exact uW o hE dA cB k (c::r2) b1 13 _ h ⟨fun _ hh=>gN (by simpa using hh),fun _ h=>by simp at h,fun h=>by simp at h⟩ (iJ hc) d r
    ·rename_i fZ
     have p1:¬ ((none:Option UInt8)=none∧b0=93∧b1=93∧b=62):=fun hh=>hi.e1 hh.2.1 hh.2.2.1 (by rw [hh.2.2.2];rfl)
     have p5:¬ (b1=13∧b=10):=fun hh=>hi.cr hh.1 (by rw [hh.2];rfl)
     cases hd:fR ents (b::t) with
     | error e=>
      rw [hd] at h
      simp only [Except.error.injEq] at h
      subst h
      exact N4 o hE dA cB none EO hd hc p1 lA (by simp) fZ p5 d r
     | ok x=>
      obtain ⟨y,r2⟩:=x
      rw [hd] at h
      simp only at h
      obtain ⟨b0',b1',e1,e2,_,e3⟩:=CN o hE none EO hd (b0:=b0) (b1:=b1) buf p1 lA (by simp) fZ p5
      rw [e1]
      refine uW o hE dA cB k r2 b0' b1' _ h ?_ (by rw [jX hc];exact e2) d r
      rcases e3 with ⟨_,rfl,rfl,rfl⟩|⟨e3,e4⟩
      ·exact hi.next fZ RF
      ·exact .of e3 e4
end Go.Proofs.YtdjdjbpnbjdaaaaGreatDoor
