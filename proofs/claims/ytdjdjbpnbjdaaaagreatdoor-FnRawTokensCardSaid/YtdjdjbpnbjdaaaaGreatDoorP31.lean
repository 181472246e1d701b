/- Part of the proof that laws.FnRawTokens returns true for every argument. No conditions. -/
import Derived.Test.YtdjdjbpnbjdaaaaGreatDoorP30
import Derived.Test.YtdjdjbpnbjdaaaaGreatDoorP13
import Derived.Test.YtdjdjbpnbjdaaaaGreatDoorP11
set_option linter.all false
set_option maxHeartbeats 8000000
set_option maxRecDepth 100000
namespace Go.Proofs.YtdjdjbpnbjdaaaaGreatDoor
open Go Go.RowKit
def a2a (x:PX) (c:PC) (tg:Bs) (sp:Bool) (K3:Nat) (w0:World) (k:Nat) (ac:Act) (w:World):Prop:=
 ∃ f a,ac=fr 92 f [(0,oM x),(3,.bool ((c.at':Int)==2)),(4,aB tg),(6,.bool sp),(7,.int .i64 (K3:Nat))]∧aU x w { c with at':=a }∧aK (fun k=>k=x.p) w0 w∧k=x.T.length-a∧a≤x.T.length∧K3≤a∧nB x.T [63,62] K3 a
def TD (opens:List Bs) (bound:List aO) (r:Except SV ((Bs×Bs)×Bs)):Except SV (List aP×iV):=match r with
 | .error e=>.error e
 | .ok (p,r)=>.ok ([.proc p.1 p.2],⟨r,opens,bound⟩)
theorem Cp (x:PX) (hT:x.T.length≤1000000000) (base:Nat) (w:World) (c:PC) (opens:List Bs) (bound:List aO) (out:List cH) (h:hY x base w c opens bound out) (bF:out.length≤1000000000) (ha:c.at'≤x.T.length) :
  Calls Tryz.prog 21 #[oM x] w (gW x base out w (TD opens bound (fW (c.at'==2) (x.T.drop c.at')))):=by
 have hc:=h.blk.cell
 have hf:=h.blk.frozen
 have H:=Lh h
 have HT:=Lh hT
 have HA:=Lh ha
 have cL:=Lh bF
 have HWO:=Lh (JE x hT w c h.blk ha)
 have OV:=Lh (uS (x.T.drop c.at'))
 have YN:=Lh (show fW (c.at'==2) (x.T.drop c.at')=if bE (aD (x.T.drop c.at')).1=1 then .error .bad
  else if eV (aD (x.T.drop c.at')).1=false then .error .opn
  else match dC [63,62] (aM (aD (x.T.drop c.at')).2) with
   | none=>.error .bad
   | some (s,r)=>
    if m6 s=false∨(s≠[]∧(aM (aD (x.T.drop c.at')).2).length=(aD (x.T.drop c.at')).2.length)∨(BS (aD (x.T.drop c.at')).1=true∧¬ ((c.at'==2)=true∧(aD (x.T.drop c.at')).1=xR∧lM.contains s=true)) then .error .opn
    else .ok (((aD (x.T.drop c.at')).1,s),r) from rfl)
 clear h hT ha bF
 refine eJ 92 Tryz.func21 [_] fun f=>?_
 simp only [aE]
 (refine vg ?_;(repeat with_reducible intro K hK))
 refine HWO.out.mono ?_
 rintro e1 w1 ⟨a1,rfl,qH,eA,uU,AF,qF⟩
 have KO:=Lh (show aU x w1 { c with at':=a1 } from qH)
 have oJ:=Lh eA
 have Yr:=Lh uU
 have Uh:=Lh AF
 obtain ⟨tg,htg⟩:∃ tg,tg=(aD (x.T.drop c.at')).1:=⟨_,rfl⟩
 rw [qF,←htg] at YN
 rw [←htg] at OV ⊢
 have wM:=Lh (show tg.length≤1000000000 by have h1:=OV.out;have h2:=HT.out;rw [List.length_drop] at h1;omega)
 have P7:=Lh (fun w=>sF tg wM.out w)
 have W1:=Lh (fun w=>zV tg wM.out w)
 have JN:=Lh (oF x HT.out w1 { c with at':=a1 } qH uU)
 have B5:=Lh (fun (w':World) (h1:aU x w' { c with at':=a1 }) (h2:aK (fun k=>k=x.p) w w') (v:Int)=>mO x w w' { c with at':=a1 } h1 h2 v)
 clear qH eA uU AF qF htg HWO hc hf OV
 ((repeat revert K);refine vS ?_;(repeat with_reducible intro K hK))
 refine (P7.out _).mono ?_
 rintro e2 w2 ⟨rfl,rfl⟩
 go_simp
 by_cases xO:bE tg=1
 ·have HR:=Lh (YN.out.trans (if_pos xO))
  rw [xO]
  clear xO
  ((repeat revert K);refine vg ?_;(repeat with_reducible intro K hK))
  refine (B5.out _ (by exact KO.out) (by exact eF oJ.out rfl rfl rfl rfl) _).mono ?_
  rintro e6 w6 ⟨rfl,gD,eQ⟩
  have jS:=Lh gD
  have jU:=Lh eQ
  clear gD eQ
  ((repeat revert K);refine vS ?_;intro K hK)
  (refine cW ?_)
  exact gW.err (w1:=w) (k:=.bad) H.out jS.out jU.out (by rw [HR.out];rfl)
 have en1:((bE tg:Int)==1)=false:=by rw [beq_eq_false_iff_ne];omega
 have T8:=Lh (YN.out.trans (if_neg xO))
 clear xO YN
 ((repeat revert K);refine vg ?_;(repeat with_reducible intro K hK))
 refine (W1.out _).mono ?_
 rintro e3 w3 ⟨rfl,rfl⟩
 go_simp
 cases AV:eV tg with
 | false=>
  have HR:=Lh (T8.out.trans (if_pos AV))
  ((repeat revert K);refine vg ?_;(repeat with_reducible intro K hK))
  refine (B5.out _ (by exact KO.out) (by exact eF oJ.out rfl rfl rfl rfl) _).mono ?_
  rintro e6 w6 ⟨rfl,gD,eQ⟩
  have jS:=Lh gD
  have jU:=Lh eQ
  clear gD eQ
  ((repeat revert K);refine vS ?_;intro K hK)
  (refine cW ?_)
  exact gW.err (w1:=w) (k:=.opn) H.out jS.out jU.out (by rw [HR.out];rfl)
 | true=>
  have YP:=Lh (T8.out.trans (if_neg (by rw [AV];simp)))
  clear T8 AV
  ((repeat revert K);refine vg ?_;(repeat with_reducible intro K hK))
  refine JN.out.mono ?_
  rintro e4 w4 ⟨a2,rfl,tJ,l5,NQ,KC,mX⟩
  have xQ:=Lh (show aU x w4 { c with at':=a2 } from tJ)
  have o6:=Lh (oJ.out.trans l5 (fun _ _ h=>h))
  have Pk:=Lh NQ
  rw [show aM (x.T.drop a1)=x.T.drop a2 from mX,List.length_drop,List.length_drop] at YP
  have a4q:=Lh (show (x.T.length-a2=x.T.length-a1)↔¬ a1<a2 by have:a1≤a2:=KC;have:=Yr.out;omega)
  have Uk:=Lh (show c.at'≤a2 by have:a1≤a2:=KC;have:=Uh.out;omega)
  obtain ⟨sp,fY⟩:∃ sp,sp=decide (a1<a2):=⟨_,rfl⟩
  have Cq:decide ((({ c with at':=a1 }:PC).at':Int)<(a2:Int))=sp:=by rw [fY];simp
  rw [Cq]
  have oK:=Lh fY
  clear tJ l5 NQ KC mX JN fY Cq
  have hc:=xQ.out.cell
  have hf:=xQ.out.frozen
  ((repeat revert K);refine vS ?_;intro K hK)
  (refine cJ [0,3,4,6,7] fun f=>?_)
  refine wp_loop_ghost_k (a2a x c tg sp a2 w) (x.T.length-a2) ⟨f,a2,rfl,xQ.out,o6.out,rfl,Pk.out,Nat.le_refl _,nB.start _ _ _⟩ ?_
  clear hc hf
  rintro k _ w2 ⟨f,a,rfl,hp,hm,hk,iK,vV,hcut⟩ J K2 hJ cY
  have HJ:=Lh hJ
  have dN:=Lh cY
  have HP:=Lh hp
  have HM:=Lh hm
  have HK:=Lh hk
  have kA:=Lh iK
  have sN:=Lh vV
  have Q3:=Lh hcut
  clear hJ cY hp hm hk iK vV hcut
  cases gM:([63,62]:Bs).isPrefixOf (x.T.drop a) with
  | true=>
   have HH:=Lh (jE x HT.out w2 { c with at':=a } HP.out kA.out [63,62] (by decide) gM)
   have zW:=Lh (lU gM (by decide))
   have A6:=Lh (Q3.out.hit gM zW.out)
   have tI:=Lh (show a+2≤x.T.length from qE gM kA.out)
   clear gM
   (revert K;refine vg ?_;(repeat with_reducible intro K hK))
   refine HH.out.mono ?_
   rintro e3 w3 ⟨rfl,eK,cD⟩
   have eP:=Lh (show aU x w3 { c with at':=a+2 } from eK)
   have fM:=Lh (HM.out.trans cD (fun _ _ h=>h))
   clear eK cD HH
   go_simp
   have hc:=eP.out.cell
   have hf:=eP.out.frozen
   have z1:(0:Int)≤(a2:Int):=by omega
   have w2':IntKind.i64.wrap (a:Int)=(a:Int):=by rw [IntKind.wrap_i64];have h8:=tI.out;have h9:=HT.out;omega
   have z2:(a2:Int)≤(a:Int):=by have:=sN.out;omega
   have z3:(a:Int)≤(x.T.length:Int):=by have:=kA.out;omega
   ((repeat revert K);refine vg ?_;intro K hK)
   (refine aI [0,0,0,1,0,0,0,0,1,0,0,0] [0,1,2,3,4,5,6,7,8,9,10,11] (by kernel_rfl) (by kernel_rfl) ?_;refine vP ?_;repeat with_reducible intro nq)
   rw [lO]
   obtain ⟨s,hs⟩:∃ s,s=(x.T.drop a2).take (a-a2):=⟨_,rfl⟩
   rw [←hs]
   rw [←hs] at A6
   have OV:=Lh (show s.length≤1000000000 by rw [hs,List.length_take,List.length_drop];have:=HT.out;omega)
   clear hs hc hf z1 z2 z3 w2'
   have HV:=Lh (fun w=>Q1 s OV.out w)
   have HRV:=Lh (fun w=>Q7 tg w)
   have dR:=fun w=>Vv s w
   obtain ⟨db,hdb⟩:∃ b,b=lM.contains s:=⟨_,rfl⟩
   rw [←hdb] at dR
   have HDC:=Lh dR
   have Ug:=Lh hdb
   clear dR hdb
   have La:=Lh (show fW (c.at'==2) (x.T.drop c.at')=if m6 s=false∨(s≠[]∧¬ a1<a2)∨(BS tg=true∧¬ ((c.at'==2)=true∧tg=xR∧lM.contains s=true)) then .error .opn else .ok ((tg,s),x.T.drop (a+2)) by
    rw [YP.out,A6.out]
    simp only [a4q.out]
    rfl)
   have U0:=Lh (fun (w':World) (h1:aU x w' { c with at':=a+2 }) (h2:aK (fun k=>k=x.p) w w') (v:Int)=>mO x w w' { c with at':=a+2 } h1 h2 v)
   have FX:=Lh (fun (hr:fW (c.at'==2) (x.T.drop c.at')=.ok ((tg,s),x.T.drop (a+2))) (w5:World) (h1:aU x w5 { c with at':=a+2 }) (h2:aK (fun k=>k=x.p) w w5)=>vK x base w w5 c opens bound out H.out cL.out (a+2) tI.out h1 h2 (.proc tg s) rfl (TD opens bound (fW (c.at'==2) (x.T.drop c.at'))) (by rw [hr];rfl))
   (revert K;refine vg ?_;(repeat with_reducible intro K hK))
   refine (HV.out _).mono ?_
   rintro e5 w5 ⟨rfl,rfl⟩
   go_simp
   cases hv:m6 s with
   | false=>
    have HR:=Lh (La.out.trans (if_pos (Or.inl hv)))
    ((repeat revert K);refine vg ?_;(repeat with_reducible intro K hK))
    refine (U0.out _ (by exact eP.out) (by exact eF fM.out rfl rfl rfl rfl) _).mono ?_
    rintro e6 w6 ⟨rfl,gD,eQ⟩
    have jS:=Lh gD
    have jU:=Lh eQ
    clear gD eQ
    ((repeat revert K);refine vS ?_;intro K hK)
    (refine cW ?_)
    exact gW.err (w1:=w) (k:=.opn) H.out jS.out jU.out (by rw [HR.out];rfl)
   | true=>
    by_cases gO:s≠[]∧¬ a1<a2
    ·have HR:=Lh (La.out.trans (if_pos (Or.inr (Or.inl gO))))
     have Sf:s.isEmpty=false:=by cases s with
      | nil=>exact absurd rfl gO.1
      | cons=>rfl
     have a4r:sp=false:=oK.out.trans (decide_eq_false gO.2)
     clear gO
     subst a4r
     ((repeat revert K);refine vg ?_;(repeat with_reducible intro K hK))
     refine (U0.out _ (by exact eP.out) (by exact eF fM.out rfl rfl rfl rfl) _).mono ?_
     rintro e6 w6 ⟨rfl,gD,eQ⟩
     have jS:=Lh gD
     have jU:=Lh eQ
     clear gD eQ
     ((repeat revert K);refine vS ?_;intro K hK)
     (refine cW ?_)
     exact gW.err (w1:=w) (k:=.opn) H.out jS.out jU.out (by rw [HR.out];rfl)
    have Cr:=Lh (show fW (c.at'==2) (x.T.drop c.at')=if (BS tg=true∧¬ ((c.at'==2)=true∧tg=xR∧lM.contains s=true)) then .error .opn else .ok ((tg,s),x.T.drop (a+2)) by
     rw [La.out]
     by_cases hq:(BS tg=true∧¬ ((c.at'==2)=true∧tg=xR∧lM.contains s=true))
     ·rw [if_pos hq,if_pos (Or.inr (Or.inr hq))]
     ·rw [if_neg hq,if_neg (fun hh=>Or.elim hh (fun h=>by rw [hv] at h;cases h) (fun h=>Or.elim h gO hq))])
    have a2b:(s.isEmpty=true)∨(s.isEmpty=false∧sp=true):=by
     cases hs9:s.isEmpty with
     | true=>exact Or.inl rfl
     | false=>
      refine Or.inr ⟨rfl,?_⟩
      rw [oK.out,decide_eq_true_iff]
      by_cases h9:a1<a2
      ·exact h9
      ·exact absurd ⟨fun h=>(by rw [h] at hs9;cases hs9),h9⟩ gO
    clear gO La
    rcases a2b with Sf|⟨Sf,dA⟩
    all_goals
     try subst dA
     ((repeat revert K);refine vg ?_;(repeat with_reducible intro K hK))
     refine (HRV.out _).mono ?_
     rintro e7 w7 ⟨rfl,rfl⟩
     go_simp
     cases bR:BS tg with
     | false=>
      ((repeat revert K);refine vg ?_;(repeat with_reducible intro K hK))
      refine (FX.out (Cr.out.trans (if_neg (fun hh=>by rw [bR] at hh;exact Bool.noConfusion hh.1))) _ (by exact eP.out) (by exact eF fM.out rfl rfl rfl rfl)).mono ?_
      rintro e6 w6 ⟨rfl,h6⟩
      have H6:=Lh h6
      clear h6
      ((repeat revert K);refine vS ?_)
      (refine cW ?_)
      exact H6.out
     | true=>
      by_cases sZ:c.at'=2
      ·have e2:((c.at':Int)==2)=true:=by rw [sZ];rfl
       have OP:=Lh sZ
       clear sZ
       by_cases hx:tg=xR
       ·have KL:(tg==[120,109,108])=true:=by rw [hx];rfl
        have HX:=Lh hx
        clear hx
        ((repeat revert K);refine vg ?_;(repeat with_reducible intro K hK))
        refine (HDC.out _).mono ?_
        rintro e8 w8 ⟨rfl,kZ⟩
        have GY:=Lh (show aK (fun k=>k=x.p) w w8 from aK.trans (fM.out.drewN _) kZ (fun _ _ h=>False.elim h))
        have OW:=Lh (show aU x w8 { c with at':=a+2 } from aJ.mod (S:=fun _=>False) eP.out ⟨kZ.os,kZ.tape,kZ.output,kZ.size,kZ.block⟩ id)
        clear kZ
        go_simp
        cases db with
        | true=>
         have hd:lM.contains s=true:=Ug.out.symm
         have HD:=Lh hd
         clear hd
         ((repeat revert K);refine vg ?_;(repeat with_reducible intro K hK))
         refine (FX.out (Cr.out.trans (if_neg (fun hh=>hh.2 ⟨(by rw [OP.out];rfl),HX.out,HD.out⟩))) _ OW.out GY.out).mono ?_
         rintro e6 w6 ⟨rfl,h6⟩
         have H6:=Lh h6
         clear h6
         ((repeat revert K);refine vS ?_)
         (refine cW ?_)
         exact H6.out
        | false=>
         have hd:lM.contains s=false:=Ug.out.symm
         have HR:=Lh (Cr.out.trans (if_pos ⟨bR,fun hh=>by rw [hd] at hh;exact Bool.noConfusion hh.2.2⟩))
         clear hd
         ((repeat revert K);refine vg ?_;(repeat with_reducible intro K hK))
         refine (U0.out _ OW.out GY.out _).mono ?_
         rintro e6 w6 ⟨rfl,gD,eQ⟩
         have jS:=Lh gD
         have jU:=Lh eQ
         clear gD eQ
         ((repeat revert K);refine vS ?_;intro K hK)
         (refine cW ?_)
         exact gW.err (w1:=w) (k:=.opn) H.out jS.out jU.out (by rw [HR.out];rfl)
       ·have KL:(tg==[120,109,108])=false:=by rw [beq_eq_false_iff_ne];exact hx
        have HR:=Lh (Cr.out.trans (if_pos ⟨bR,fun hh=>hx hh.2.1⟩))
        clear hx
        ((repeat revert K);refine vg ?_;(repeat with_reducible intro K hK))
        refine (U0.out _ (by exact eP.out) (by exact eF fM.out rfl rfl rfl rfl) _).mono ?_
        rintro e6 w6 ⟨rfl,gD,eQ⟩
        have jS:=Lh gD
        have jU:=Lh eQ
        clear gD eQ
        ((repeat revert K);refine vS ?_;intro K hK)
        (refine cW ?_)
        exact gW.err (w1:=w) (k:=.opn) H.out jS.out jU.out (by rw [HR.out];rfl)
      ·have e2:((c.at':Int)==2)=false:=by rw [beq_eq_false_iff_ne];omega
       have HR:=Lh (Cr.out.trans (if_pos ⟨bR,fun hh=>sZ (beq_iff_eq.1 hh.1)⟩))
       clear sZ
       ((repeat revert K);refine vg ?_;(repeat with_reducible intro K hK))
       refine (U0.out _ (by exact eP.out) (by exact eF fM.out rfl rfl rfl rfl) _).mono ?_
       rintro e6 w6 ⟨rfl,gD,eQ⟩
       have jS:=Lh gD
       have jU:=Lh eQ
       clear gD eQ
       ((repeat revert K);refine vS ?_;intro K hK)
       (refine cW ?_)
       exact gW.err (w1:=w) (k:=.opn) H.out jS.out jU.out (by rw [HR.out];rfl)
  | false=>
   have HH:=Lh (iP x HT.out w2 { c with at':=a } HP.out kA.out [63,62] (by decide) gM)
   by_cases bB:a<x.T.length
   ·have A6:=Lh (Q3.out.next sN.out gM bB)
    clear gM
    (revert K;refine vg ?_;(repeat with_reducible intro K hK))
    refine HH.out.mono ?_
    rintro e3 w3 ⟨rfl,eK,cD⟩
    have eP:=Lh eK
    have fM:=Lh (HM.out.trans cD (fun _ _ h=>h))
    have HE:=Lh (qD x w3 { c with at':=a } eK bB)
    clear eK cD HH
    ((repeat revert K);refine vS ?_;(repeat with_reducible intro K hK))
    refine HE.out.mono ?_
    rintro e4 w4 ⟨rfl,k4,rfl⟩
    have hc:=(show aU x (w3.drewN k4) { c with at':=a } from eP.out).cell
    have hf:=(show aU x (w3.drewN k4) { c with at':=a } from eP.out).frozen
    have w1:IntKind.i64.wrap ((a:Int)+1)=((a+1:Nat):Int):=by rw [IntKind.wrap_i64];have:=HT.out;omega
    ((repeat revert K);refine vS ?_;intro K hK)
    (refine Kk [0,3,4,6,7] fun f=>?_)
    refine dN.out _ _ ⟨x.T.length-(a+1),by rw [HK.out];omega,HJ.out _ _ _ ⟨f,a+1,rfl,?_,aK.setCell (S:=fun k=>k=x.p) (fM.out.drewN _) (p:=⟨x.p,1,none⟩) (Or.inl rfl) _,rfl,bB,by have:=sN.out;omega,A6.out⟩⟩
    exact aJ.set (w:=w3.drewN _) (cs:=gV x { c with at':=a }) eP.out 1 _
   ·have A6:=Lh (Q3.out.none (by omega))
    have HR:=Lh (show fW (c.at'==2) (x.T.drop c.at')=.error .bad by rw [YP.out,A6.out])
    clear gM
    (revert K;refine vg ?_;(repeat with_reducible intro K hK))
    refine HH.out.mono ?_
    rintro e3 w3 ⟨rfl,eK,cD⟩
    have eP:=Lh eK
    have fM:=Lh (HM.out.trans cD (fun _ _ h=>h))
    have HE:=Lh (qC x w3 { c with at':=a } eK (by simp;omega))
    clear eK cD HH
    ((repeat revert K);refine vS ?_;(repeat with_reducible intro K hK))
    refine HE.out.mono ?_
    rintro e4 w4 ⟨rfl,k4,rfl⟩
    have HF:=Lh (mV x (w3.drewN k4) { c with at':=a } eP.out 1)
    ((repeat revert K);refine vS ?_;(repeat with_reducible intro K hK))
    refine HF.out.mono ?_
    rintro e6 w6 ⟨rfl,gD,eQ⟩
    have jS:=Lh gD
    have jU:=Lh eQ
    clear gD eQ
    ((repeat revert K);refine vS ?_;(repeat with_reducible intro K hK))
    (refine cW ?_)
    exact gW.err (w1:=w) (k:=.bad) H.out jS.out ((fM.out.drewN _).trans jU.out (fun _ _ h=>h)) (by rw [HR.out];rfl)
theorem NR (bQ:Bool) (n:Int) (s:Bs) (i:Nat) (hi:i<s.length):bM bQ n (s.drop i)=if eY bQ (s.getD i 0) then bM bQ (if 1114111<(if 0≤n then n*(if bQ then 16 else 10)+dH (s.getD i 0) else n) then -1 else (if 0≤n then n*(if bQ then 16 else 10)+dH (s.getD i 0) else n)) (s.drop (i+1)) else none:=by
 rw [bT s i hi]
 conv=>lhs;unfold bM
def Pl (bQ:Bool) (s:Bs) (w0:World) (k:Nat) (ac:Act) (w:World):Prop:=
 ∃ f i n,ac=fr 74 f [(0,aB s),(4,.int .i64 (if bQ then 16 else 10)),(5,.int .i64 n),(20,.int .i64 (s.length:Nat)),(21,.int .i64 (i:Nat))]∧w0=w∧k=s.length-i∧i≤s.length∧-1≤n∧n≤1114111∧bM bQ 0 s=bM bQ n (s.drop i)
def a4s (r:Option Int) (e:Ending):Prop:=match r with
 | some n=>e=.returned (.tuple #[.int .i64 n,.bool true])∧-1≤n∧n≤1114111
 | none=>e=.returned (.tuple #[.int .i64 0,.bool false])
theorem G2 (bQ:Bool) (b:UInt8):(48≤b.toNat∧b.toNat≤57∧eY bQ b=true∧dH b=b.toNat-48)∨(bQ=true∧97≤b.toNat∧b.toNat≤102∧eY bQ b=true∧dH b=b.toNat-87)∨(bQ=true∧65≤b.toNat∧b.toNat≤70∧eY bQ b=true∧dH b=b.toNat-55)∨(¬ (48≤b.toNat∧b.toNat≤57)∧¬ (bQ=true∧97≤b.toNat∧b.toNat≤102)∧¬ (bQ=true∧65≤b.toNat∧b.toNat≤70)∧eY bQ b=false):=by
 have e1:(48≤b)↔48≤b.toNat:=UInt8.le_iff_toNat_le
 have e2:(b≤57)↔b.toNat≤57:=UInt8.le_iff_toNat_le
 have e3:(97≤b)↔97≤b.toNat:=UInt8.le_iff_toNat_le
 have e4:(b≤102)↔b.toNat≤102:=UInt8.le_iff_toNat_le
 have e5:(65≤b)↔65≤b.toNat:=UInt8.le_iff_toNat_le
 have e6:(b≤70)↔b.toNat≤70:=UInt8.le_iff_toNat_le
 have hd:eY bQ b=((decide (48≤b.toNat)&&decide (b.toNat≤57))||(bQ&&decide (97≤b.toNat)&&decide (b.toNat≤102))||(bQ&&decide (65≤b.toNat)&&decide (b.toNat≤70))):=by
  unfold eY;simp only [e1,e2,e3,e4,e5,e6]
 have hv:dH b=if b.toNat≤57 then b.toNat-48 else if 97≤b.toNat then b.toNat-87 else b.toNat-55:=by
  unfold dH;simp only [e2,e3]
 rw [hd,hv]
 by_cases h1:48≤b.toNat∧b.toNat≤57
 ·left
  refine ⟨h1.1,h1.2,?_,if_pos h1.2⟩
  simp [h1.1,h1.2]
 ·by_cases h2:bQ=true∧97≤b.toNat∧b.toNat≤102
  ·right;left
   refine ⟨h2.1,h2.2.1,h2.2.2,?_,?_⟩
   ·simp [h2.1,h2.2.1,h2.2.2]
   ·rw [if_neg (by omega),if_pos h2.2.1]
  ·by_cases h3:bQ=true∧65≤b.toNat∧b.toNat≤70
   ·right;right;left
    refine ⟨h3.1,h3.2.1,h3.2.2,?_,?_⟩
    ·simp [h3.1,h3.2.1,h3.2.2]
    ·rw [if_neg (by omega),if_neg (by omega)]
   ·right;right;right
    refine ⟨h1,h2,h3,?_⟩
    cases bQ<;>simp_all<;>omega
theorem Cs (s:Bs) (hl:s.length≤1000000000) (w:World):Calls Tryz.prog 105 #[aB s] w fun e w'=>a4s (iT s) e∧∃ k,w'=w.drewN k:=by
 refine eJ 74 Tryz.func105 [_] fun f=>?_
 simp only [aE]
 cases s with
 | nil=>
  (refine vg ?_;intro K hK)
  (refine kX ?_)
  exact ⟨rfl,0,rfl⟩
 | cons b t=>
  have HL:=Lh (show t.length+1≤1000000000 from hl)
  clear hl
  have ix0:∀ h,(⟨(b::t).toArray⟩:ByteArray)[0]'h=b:=fun h=>rfl
  by_cases Lb:b=120
  ·subst Lb
   obtain ⟨s0,YF⟩:∃ s0:Bs,s0=120::t:=⟨_,rfl⟩
   have a4t:s0.isEmpty=false:=by rw [YF];rfl
   have HS0:=Lh YF
   have z1:(0:Int)≤(s0.length:Int):=by omega
   have z2:(1:Int)≤(s0.length:Int):=by rw [YF];simp;omega
   have z3:(0:Int)<(s0.length:Int):=by omega
   have z4:0<s0.length:=by omega
   rw [←YF] at ix0 ⊢
   clear YF
   (refine vg ?_;intro K hK)
   (refine aI [0,0,0,0] [0,1,2,3] (by kernel_rfl) (by kernel_rfl) ?_;refine vP ?_;repeat with_reducible intro nq)
   rw [jI,show s0.drop 1=t by rw [HS0.out];rfl]
   clear a4t z1 z2 z3 z4 ix0
   cases t with
   | nil=>
    (revert K;refine vg ?_;intro K hK)
    (refine kX ?_)
    exact ⟨by rw [HS0.out];rfl,_,rfl⟩
   | cons c t2=>
    obtain ⟨s,hs⟩:∃ s:Bs,s=c::t2:=⟨_,rfl⟩
    have Sf:s.isEmpty=false:=by rw [hs];rfl
    have tI:=Lh (show s.length≤1000000000 by rw [hs];have:=HL.out;simp at this ⊢;omega)
    have HN:=Lh (show iT s0=bM true 0 s by rw [HS0.out,hs];rfl)
    rw [←hs]
    clear hs HL
    (revert K;refine vg ?_;intro K hK)
    (refine cJ [0,4,5,20,21] fun f=>?_)
    refine wp_loop_ghost_k (Pl true s (w.drewN nq)) s.length ⟨f,0,0,rfl,rfl,rfl,Nat.zero_le _,by omega,by omega,rfl⟩ ?_
    rintro k _ _ ⟨f,i,n,rfl,rfl,hk,hi,iL,gK,rS⟩ J K2 hJ cY
    have HJ:=Lh hJ
    have dN:=Lh cY
    have HK:=Lh hk
    have nQ:=Lh rS
    have E0:=Lh iL
    have mH:=Lh gK
    clear hJ cY hk rS iL gK
    simp only [if_true]
    by_cases bB:i<s.length
    ·have t0:(0:Int)≤(i:Int):=by omega
     have t1:(i:Int)<(s.length:Int):=by omega
     have wi:IntKind.i64.wrap ((i:Int)+1)=((i+1:Nat):Int):=by rw [IntKind.wrap_i64];have h2:=tI.out;omega
     have dA:=NR true n s i bB
     obtain ⟨b,hb⟩:∃ b,b=s.getD i 0:=⟨_,rfl⟩
     have ix:∀ h,(⟨s.toArray⟩:ByteArray)[i]'h=b:=by rw [hb];exact jG s i bB
     rw [←hb] at dA
     have gC:=Lh (nQ.out.trans dA)
     have PH:=b.toNat_lt
     have wb:IntKind.i64.wrap (b.toNat:Int)=(b.toNat:Int):=by rw [IntKind.wrap_i64];omega
     clear hb dA
     rcases G2 true b with ⟨g1,g2,g3,g4⟩|⟨g0,g1,g2,g3,g4⟩|⟨g0,g1,g2,g3,g4⟩|⟨g1,g2,g3,g4⟩
     ·have wc:IntKind.i64.wrap ((b.toNat:Int)-48)=((b.toNat-48:Nat):Int):=by rw [IntKind.wrap_i64];omega
      obtain ⟨c,yY⟩:∃ c:Nat,c=b.toNat-48:=⟨_,rfl⟩
      have Vl:c≤15:=by omega
      have HG:=Lh (show eY true b=true∧dH b=c from ⟨g3,g4.trans yY.symm⟩)
      rw [←yY] at wc
      first|have:(48:Int)≤(b.toNat:Int):=by omega|have:¬ ((48:Int)≤(b.toNat:Int)):=by omega
      first|have:(b.toNat:Int)≤57:=by omega|have:¬ ((b.toNat:Int)≤57):=by omega
      first|have:(97:Int)≤(b.toNat:Int):=by omega|have:¬ ((97:Int)≤(b.toNat:Int)):=by omega
      first|have:(b.toNat:Int)≤102:=by omega|have:¬ ((b.toNat:Int)≤102):=by omega
      first|have:(65:Int)≤(b.toNat:Int):=by omega|have:¬ ((65:Int)≤(b.toNat:Int)):=by omega
      first|have:(b.toNat:Int)≤70:=by omega|have:¬ ((b.toNat:Int)≤70):=by omega
      clear g3 g4 yY
      by_cases pH:0≤n
      ·have wm:IntKind.i64.wrap (n*16)=n*16:=by rw [IntKind.wrap_i64];have:=mH.out;omega
       have wa:IntKind.i64.wrap (n*16+(c:Int))=n*16+(c:Int):=by rw [IntKind.wrap_i64];have:=mH.out;omega
       by_cases EA:1114111<n*16+(c:Int)
       ·have HR:=Lh (show bM true 0 s=bM true (-1) (s.drop (i+1)) by
         rw [gC.out,HG.out.1,HG.out.2,if_pos rfl,if_pos pH]
         rw [if_pos (by simpa using EA)])
        (revert K;refine vg ?_;intro K hK)
        (refine Kk [0,4,5,20,21] fun f=>?_)
        exact dN.out _ _ ⟨s.length-(i+1),by rw [HK.out];omega,HJ.out _ _ _ ⟨f,i+1,-1,rfl,rfl,rfl,bB,by omega,by omega,HR.out⟩⟩
       ·have HR:=Lh (show bM true 0 s=bM true (n*16+(c:Int)) (s.drop (i+1)) by
         rw [gC.out,HG.out.1,HG.out.2,if_pos rfl,if_pos pH]
         rw [if_neg (by simpa using EA)];simp)
        (revert K;refine vg ?_;intro K hK)
        (refine Kk [0,4,5,20,21] fun f=>?_)
        exact dN.out _ _ ⟨s.length-(i+1),by rw [HK.out];omega,HJ.out _ _ _ ⟨f,i+1,n*16+(c:Int),rfl,rfl,rfl,bB,by omega,by omega,HR.out⟩⟩
      ·have lC:¬ 1114111<n:=by omega
       have HR:=Lh (show bM true 0 s=bM true n (s.drop (i+1)) by
        rw [gC.out,HG.out.1,HG.out.2,if_pos rfl,if_neg pH,if_neg lC])
       (revert K;refine vg ?_;intro K hK)
       (refine Kk [0,4,5,20,21] fun f=>?_)
       exact dN.out _ _ ⟨s.length-(i+1),by rw [HK.out];omega,HJ.out _ _ _ ⟨f,i+1,n,rfl,rfl,rfl,bB,E0.out,mH.out,HR.out⟩⟩
     ·have wc:IntKind.i64.wrap ((b.toNat:Int)-87)=((b.toNat-87:Nat):Int):=by rw [IntKind.wrap_i64];omega
      obtain ⟨c,yY⟩:∃ c:Nat,c=b.toNat-87:=⟨_,rfl⟩
      have Vl:c≤15:=by omega
      have HG:=Lh (show eY true b=true∧dH b=c from ⟨g3,g4.trans yY.symm⟩)
      rw [←yY] at wc
      first|have:(48:Int)≤(b.toNat:Int):=by omega|have:¬ ((48:Int)≤(b.toNat:Int)):=by omega
      first|have:(b.toNat:Int)≤57:=by omega|have:¬ ((b.toNat:Int)≤57):=by omega
      first|have:(97:Int)≤(b.toNat:Int):=by omega|have:¬ ((97:Int)≤(b.toNat:Int)):=by omega
      first|have:(b.toNat:Int)≤102:=by omega|have:¬ ((b.toNat:Int)≤102):=by omega
      first|have:(65:Int)≤(b.toNat:Int):=by omega|have:¬ ((65:Int)≤(b.toNat:Int)):=by omega
      first|have:(b.toNat:Int)≤70:=by omega|have:¬ ((b.toNat:Int)≤70):=by omega
      clear g3 g4 yY
      by_cases pH:0≤n
      ·have wm:IntKind.i64.wrap (n*16)=n*16:=by rw [IntKind.wrap_i64];have:=mH.out;omega
       have wa:IntKind.i64.wrap (n*16+(c:Int))=n*16+(c:Int):=by rw [IntKind.wrap_i64];have:=mH.out;omega
       by_cases EA:1114111<n*16+(c:Int)
       ·have HR:=Lh (show bM true 0 s=bM true (-1) (s.drop (i+1)) by
         rw [gC.out,HG.out.1,HG.out.2,if_pos rfl,if_pos pH]
         rw [if_pos (by simpa using EA)])
        (revert K;refine vg ?_;intro K hK)
        (refine Kk [0,4,5,20,21] fun f=>?_)
        exact dN.out _ _ ⟨s.length-(i+1),by rw [HK.out];omega,HJ.out _ _ _ ⟨f,i+1,-1,rfl,rfl,rfl,bB,by omega,by omega,HR.out⟩⟩
       ·have HR:=Lh (show bM true 0 s=bM true (n*16+(c:Int)) (s.drop (i+1)) by
         rw [gC.out,HG.out.1,HG.out.2,if_pos rfl,if_pos pH]
         rw [if_neg (by simpa using EA)];simp)
        (revert K;refine vg ?_;intro K hK)
        (refine Kk [0,4,5,20,21] fun f=>?_)
        exact dN.out _ _ ⟨s.length-(i+1),by rw [HK.out];omega,HJ.out _ _ _ ⟨f,i+1,n*16+(c:Int),rfl,rfl,rfl,bB,by omega,by omega,HR.out⟩⟩
      ·have lC:¬ 1114111<n:=by omega
       have HR:=Lh (show bM true 0 s=bM true n (s.drop (i+1)) by
        rw [gC.out,HG.out.1,HG.out.2,if_pos rfl,if_neg pH,if_neg lC])
       (revert K;refine vg ?_;intro K hK)
       (refine Kk [0,4,5,20,21] fun f=>?_)
       exact dN.out _ _ ⟨s.length-(i+1),by rw [HK.out];omega,HJ.out _ _ _ ⟨f,i+1,n,rfl,rfl,rfl,bB,E0.out,mH.out,HR.out⟩⟩
     ·have wc:IntKind.i64.wrap ((b.toNat:Int)-55)=((b.toNat-55:Nat):Int):=by rw [IntKind.wrap_i64];omega
      obtain ⟨c,yY⟩:∃ c:Nat,c=b.toNat-55:=⟨_,rfl⟩
      have Vl:c≤15:=by omega
      have HG:=Lh (show eY true b=true∧dH b=c from ⟨g3,g4.trans yY.symm⟩)
      rw [←yY] at wc
      first|have:(48:Int)≤(b.toNat:Int):=by omega|have:¬ ((48:Int)≤(b.toNat:Int)):=by omega
      first|have:(b.toNat:Int)≤57:=by omega|have:¬ ((b.toNat:Int)≤57):=by omega
      first|have:(97:Int)≤(b.toNat:Int):=by omega|have:¬ ((97:Int)≤(b.toNat:Int)):=by omega
      first|have:(b.toNat:Int)≤102:=by omega|have:¬ ((b.toNat:Int)≤102):=by omega
      first|have:(65:Int)≤(b.toNat:Int):=by omega|have:¬ ((65:Int)≤(b.toNat:Int)):=by omega
      first|have:(b.toNat:Int)≤70:=by omega|have:¬ ((b.toNat:Int)≤70):=by omega
      clear g3 g4 yY
      by_cases pH:0≤n
      ·have wm:IntKind.i64.wrap (n*16)=n*16:=by rw [IntKind.wrap_i64];have:=mH.out;omega
       have wa:IntKind.i64.wrap (n*16+(c:Int))=n*16+(c:Int):=by rw [IntKind.wrap_i64];have:=mH.out;omega
       by_cases EA:1114111<n*16+(c:Int)
       ·have HR:=Lh (show bM true 0 s=bM true (-1) (s.drop (i+1)) by
         rw [gC.out,HG.out.1,HG.out.2,if_pos rfl,if_pos pH]
         rw [if_pos (by simpa using EA)])
        (revert K;refine vg ?_;intro K hK)
        (refine Kk [0,4,5,20,21] fun f=>?_)
        exact dN.out _ _ ⟨s.length-(i+1),by rw [HK.out];omega,HJ.out _ _ _ ⟨f,i+1,-1,rfl,rfl,rfl,bB,by omega,by omega,HR.out⟩⟩
       ·have HR:=Lh (show bM true 0 s=bM true (n*16+(c:Int)) (s.drop (i+1)) by
         rw [gC.out,HG.out.1,HG.out.2,if_pos rfl,if_pos pH]
         rw [if_neg (by simpa using EA)];simp)
        (revert K;refine vg ?_;intro K hK)
        (refine Kk [0,4,5,20,21] fun f=>?_)
        exact dN.out _ _ ⟨s.length-(i+1),by rw [HK.out];omega,HJ.out _ _ _ ⟨f,i+1,n*16+(c:Int),rfl,rfl,rfl,bB,by omega,by omega,HR.out⟩⟩
      ·have lC:¬ 1114111<n:=by omega
       have HR:=Lh (show bM true 0 s=bM true n (s.drop (i+1)) by
        rw [gC.out,HG.out.1,HG.out.2,if_pos rfl,if_neg pH,if_neg lC])
       (revert K;refine vg ?_;intro K hK)
       (refine Kk [0,4,5,20,21] fun f=>?_)
       exact dN.out _ _ ⟨s.length-(i+1),by rw [HK.out];omega,HJ.out _ _ _ ⟨f,i+1,n,rfl,rfl,rfl,bB,E0.out,mH.out,HR.out⟩⟩
     ·have HR:=Lh (show bM true 0 s=none by rw [gC.out,g4];rfl)
      clear g4
      have fY:b.toNat<48∨(57<b.toNat∧b.toNat<65)∨(65≤b.toNat∧b.toNat≤70)∨(70<b.toNat∧b.toNat<97)∨(97≤b.toNat∧b.toNat≤102)∨102<b.toNat:=by omega
      simp only [true_and,false_and,not_false_eq_true,Bool.false_eq_true] at g2 g3
      rcases fY with h9|h9|h9|h9|h9|h9
      all_goals first|(exfalso;omega)|(
       first|have:(48:Int)≤(b.toNat:Int):=by omega|have:¬ ((48:Int)≤(b.toNat:Int)):=by omega
       first|have:(b.toNat:Int)≤57:=by omega|have:¬ ((b.toNat:Int)≤57):=by omega
       first|have:(97:Int)≤(b.toNat:Int):=by omega|have:¬ ((97:Int)≤(b.toNat:Int)):=by omega
       first|have:(b.toNat:Int)≤102:=by omega|have:¬ ((b.toNat:Int)≤102):=by omega
       first|have:(65:Int)≤(b.toNat:Int):=by omega|have:¬ ((65:Int)≤(b.toNat:Int)):=by omega
       first|have:(b.toNat:Int)≤70:=by omega|have:¬ ((b.toNat:Int)≤70):=by omega
       (revert K;refine vg ?_;(repeat with_reducible intro K hK))
       (refine kX ?_)
       refine ⟨?_,_,rfl⟩
       rw [HN.out,HR.out]
       rfl)
    ·have sX:i=s.length:=by omega
     subst sX
     have t1:¬ ((s.length:Int)<(s.length:Int)):=by omega
     have HR:=Lh (show bM true 0 s=some n by rw [nQ.out,List.drop_length];rfl)
     (revert K;refine vg ?_)
     (refine kX ?_)
     refine ⟨?_,_,rfl⟩
     rw [HN.out,HR.out]
     exact ⟨rfl,E0.out,mH.out⟩
  ·have a5P:((b.toNat:Int)==120)=false:=pP Lb
   have z3:(0:Int)<(((b::t:Bs).length:Nat):Int):=by simp
   obtain ⟨s,hs⟩:∃ s:Bs,s=b::t:=⟨_,rfl⟩
   have Sf:s.isEmpty=false:=by rw [hs];rfl
   have tI:=Lh (show s.length≤1000000000 by rw [hs];exact HL.out)
   have HN:=Lh (show iT (b::t)=bM false 0 s by rw [hs];unfold iT;simp only [if_neg Lb])
   rw [←hs] at ix0 z3 ⊢
   have z4:0<s.length:=by omega
   rw [hs] at HN
   rw [←hs] at HN
   clear hs Lb HL
   (refine vg ?_;intro K hK)
   (refine cJ [0,4,5,20,21] fun f=>?_)
   refine wp_loop_ghost_k (Pl false s w) s.length ⟨f,0,0,rfl,rfl,rfl,Nat.zero_le _,by omega,by omega,rfl⟩ ?_
   rintro k _ _ ⟨f,i,n,rfl,rfl,hk,hi,iL,gK,rS⟩ J K2 hJ cY
   have HJ:=Lh hJ
   have dN:=Lh cY
   have HK:=Lh hk
   have nQ:=Lh rS
   have E0:=Lh iL
   have mH:=Lh gK
   clear hJ cY hk rS iL gK
   simp only [Bool.false_eq_true,if_false]
   by_cases bB:i<s.length
   ·have t0:(0:Int)≤(i:Int):=by omega
    have t1:(i:Int)<(s.length:Int):=by omega
    have wi:IntKind.i64.wrap ((i:Int)+1)=((i+1:Nat):Int):=by rw [IntKind.wrap_i64];have h2:=tI.out;omega
    have dA:=NR false n s i bB
    obtain ⟨b,hb⟩:∃ b,b=s.getD i 0:=⟨_,rfl⟩
    have ix:∀ h,(⟨s.toArray⟩:ByteArray)[i]'h=b:=by rw [hb];exact jG s i bB
    rw [←hb] at dA
    have gC:=Lh (nQ.out.trans dA)
    have PH:=b.toNat_lt
    have wb:IntKind.i64.wrap (b.toNat:Int)=(b.toNat:Int):=by rw [IntKind.wrap_i64];omega
    clear hb dA
    rcases G2 false b with ⟨g1,g2,g3,g4⟩|⟨g0,g1,g2,g3,g4⟩|⟨g0,g1,g2,g3,g4⟩|⟨g1,g2,g3,g4⟩
    ·have wc:IntKind.i64.wrap ((b.toNat:Int)-48)=((b.toNat-48:Nat):Int):=by rw [IntKind.wrap_i64];omega
     obtain ⟨c,yY⟩:∃ c:Nat,c=b.toNat-48:=⟨_,rfl⟩
     have Vl:c≤15:=by omega
     have HG:=Lh (show eY false b=true∧dH b=c from ⟨g3,g4.trans yY.symm⟩)
     rw [←yY] at wc
     first|have:(48:Int)≤(b.toNat:Int):=by omega|have:¬ ((48:Int)≤(b.toNat:Int)):=by omega
     first|have:(b.toNat:Int)≤57:=by omega|have:¬ ((b.toNat:Int)≤57):=by omega
     first|have:(97:Int)≤(b.toNat:Int):=by omega|have:¬ ((97:Int)≤(b.toNat:Int)):=by omega
     first|have:(b.toNat:Int)≤102:=by omega|have:¬ ((b.toNat:Int)≤102):=by omega
     first|have:(65:Int)≤(b.toNat:Int):=by omega|have:¬ ((65:Int)≤(b.toNat:Int)):=by omega
     first|have:(b.toNat:Int)≤70:=by omega|have:¬ ((b.toNat:Int)≤70):=by omega
     clear g3 g4 yY
     by_cases pH:0≤n
     ·have wm:IntKind.i64.wrap (n*10)=n*10:=by rw [IntKind.wrap_i64];have:=mH.out;omega
      have wa:IntKind.i64.wrap (n*10+(c:Int))=n*10+(c:Int):=by rw [IntKind.wrap_i64];have:=mH.out;omega
      by_cases EA:1114111<n*10+(c:Int)
      ·have HR:=Lh (show bM false 0 s=bM false (-1) (s.drop (i+1)) by
        rw [gC.out,HG.out.1,HG.out.2,if_pos rfl,if_pos pH]
        rw [if_pos (by simpa using EA)])
       (revert K;refine vg ?_;intro K hK)
       (refine Kk [0,4,5,20,21] fun f=>?_)
       exact dN.out _ _ ⟨s.length-(i+1),by rw [HK.out];omega,HJ.out _ _ _ ⟨f,i+1,-1,rfl,rfl,rfl,bB,by omega,by omega,HR.out⟩⟩
      ·have HR:=Lh (show bM false 0 s=bM false (n*10+(c:Int)) (s.drop (i+1)) by
        rw [gC.out,HG.out.1,HG.out.2,if_pos rfl,if_pos pH]
        rw [if_neg (by simpa using EA)];simp)
       (revert K;refine vg ?_;intro K hK)
       (refine Kk [0,4,5,20,21] fun f=>?_)
       exact dN.out _ _ ⟨s.length-(i+1),by rw [HK.out];omega,HJ.out _ _ _ ⟨f,i+1,n*10+(c:Int),rfl,rfl,rfl,bB,by omega,by omega,HR.out⟩⟩
     ·have lC:¬ 1114111<n:=by omega
      have HR:=Lh (show bM false 0 s=bM false n (s.drop (i+1)) by
       rw [gC.out,HG.out.1,HG.out.2,if_pos rfl,if_neg pH,if_neg lC])
      (revert K;refine vg ?_;intro K hK)
      (refine Kk [0,4,5,20,21] fun f=>?_)
      exact dN.out _ _ ⟨s.length-(i+1),by rw [HK.out];omega,HJ.out _ _ _ ⟨f,i+1,n,rfl,rfl,rfl,bB,E0.out,mH.out,HR.out⟩⟩
    ·exact Bool.noConfusion g0
    ·exact Bool.noConfusion g0
    ·have HR:=Lh (show bM false 0 s=none by rw [gC.out,g4];rfl)
     clear g4
     have fY:b.toNat<48∨(57<b.toNat∧b.toNat<65)∨(65≤b.toNat∧b.toNat≤70)∨(70<b.toNat∧b.toNat<97)∨(97≤b.toNat∧b.toNat≤102)∨102<b.toNat:=by omega
     simp only [true_and,false_and,not_false_eq_true,Bool.false_eq_true] at g2 g3
     rcases fY with h9|h9|h9|h9|h9|h9
     all_goals first|(exfalso;omega)|(
      first|have:(48:Int)≤(b.toNat:Int):=by omega|have:¬ ((48:Int)≤(b.toNat:Int)):=by omega
      first|have:(b.toNat:Int)≤57:=by omega|have:¬ ((b.toNat:Int)≤57):=by omega
      first|have:(97:Int)≤(b.toNat:Int):=by omega|have:¬ ((97:Int)≤(b.toNat:Int)):=by omega
      first|have:(b.toNat:Int)≤102:=by omega|have:¬ ((b.toNat:Int)≤102):=by omega
      first|have:(65:Int)≤(b.toNat:Int):=by omega|have:¬ ((65:Int)≤(b.toNat:Int)):=by omega
      first|have:(b.toNat:Int)≤70:=by omega|have:¬ ((b.toNat:Int)≤70):=by omega
      (revert K;refine vg ?_;(repeat with_reducible intro K hK))
      (refine kX ?_)
      refine ⟨?_,0,rfl⟩
      rw [HN.out,HR.out]
      rfl)
   ·have sX:i=s.length:=by omega
    subst sX
    have t1:¬ ((s.length:Int)<(s.length:Int)):=by omega
    have HR:=Lh (show bM false 0 s=some n by rw [nQ.out,List.drop_length];rfl)
    (revert K;refine vg ?_)
    (refine kX ?_)
    refine ⟨?_,0,rfl⟩
    rw [HN.out,HR.out]
    exact ⟨rfl,E0.out,mH.out⟩
theorem Lc (n:Nat) (h:bU n=true):Utf8.valid (n:Int)=true:=by
 unfold bU at h
 unfold Utf8.valid
 simp only [Bool.or_eq_true,Bool.and_eq_true,decide_eq_true_eq,beq_iff_eq] at h ⊢
 omega
theorem CH (w:World) (l:Bs) (k:Nat) (hk:k=l.length):(convert 77 9 (.slice (some ⟨w.heap.size,0,none⟩) k k)).run Tryz.prog (w.alloc (.cells (l.map fun b=>Value.int .u8 b.toNat).toArray 5))=.ok (aB l) (w.alloc (.cells (l.map fun b=>Value.int .u8 b.toNat).toArray 5)):=by
 subst hk
 refine oL l _ w.heap.size 0 l.length (fun j hj=>?_)
 rw [Nat.zero_add,(aJ.new w _ _).cell]
 simp [List.getD_eq_getElem?_getD,hj]
theorem Ld (p y:Int) (i:Nat) (h0:0≤p) (hp:p % 2 ^ i=0) (qH:p<1000) (hy:0≤y) (xN:y<2 ^ i) (E4:y<1000):bits .or .i64 p y=p+y:=
 bits_join .i64 60 (by decide) kS i p y h0 hp (by omega) hy xN (by omega)
theorem V8 (y:Int) (h0:0≤y) (h1:y<2000000):bits .and .i64 y 63=y % 64:=bits_mask .i64 60 (by decide) kS 6 (by decide) y h0 (by omega)
theorem wQ (y:Int) (n:Nat) (h:y=n) (hn:n<256):IntKind.u8.wrap y=((UInt8.ofNat n).toNat:Int):=by
 subst h
 rw [IntKind.wrap_u8]
 simp
theorem Ct (n:Nat) (h:bU n=true) (w:World):Calls Tryz.prog 106 #[.int .i64 n] w fun e w'=>e=.returned (aB (fN n))∧aK (fun _=>False) w w':=by
 have hv:=Lc n h
 have h9:n≤1114111:=by
  unfold bU at h
  simp only [Bool.or_eq_true,Bool.and_eq_true,decide_eq_true_eq,beq_iff_eq] at h
  omega
 have hru:fN n=if n<0x80 then [UInt8.ofNat n] else if n<0x800 then [UInt8.ofNat (0xC0+n / 64),UInt8.ofNat (0x80+n % 64)]
   else if n<0x10000 then [UInt8.ofNat (0xE0+n / 4096),UInt8.ofNat (0x80+n / 64 % 64),UInt8.ofNat (0x80+n % 64)]
   else [UInt8.ofNat (0xF0+n / 262144),UInt8.ofNat (0x80+n / 4096 % 64),UInt8.ofNat (0x80+n / 64 % 64),UInt8.ofNat (0x80+n % 64)]:=by
  unfold fN Utf8.encode
  rw [hv]
  simp only [if_true,Int.toNat_natCast]
  split
  ·rfl
  ·split
   ·rfl
   ·split<;>rfl
 have HRU:=Lh hru
 clear hru hv h
 refine eJ 61 Tryz.func106 [_] fun f=>?_
 simp only [aE]
 by_cases h1:n<128
 ·have c1:(n:Int)<128:=by omega
  have HR:=Lh (show fN n=[UInt8.ofNat (n)] by rw [HRU.out,if_pos h1])
  have b0:=wQ ((n:Int)) (n) (by omega) (by omega)
  obtain ⟨y0,Cu⟩:∃ y:UInt8,y=UInt8.ofNat (n):=⟨_,rfl⟩
  rw [←Cu] at b0 HR
  clear Cu
  have EZ:=CH w [y0] 1 rfl
  simp only [List.map_cons,List.map_nil] at EZ
  (refine vg ?_;intro K hK)
  (refine cW ?_)
  exact ⟨by rw [HR.out],(aK.refl _ w).alloc _⟩
 have c1:¬ (n:Int)<128:=by omega
 by_cases h2:n<2048
 ·have c2:(n:Int)<2048:=by omega
  have HR:=Lh (show fN n=[UInt8.ofNat (0xC0+n / 64),UInt8.ofNat (0x80+n % 64)] by rw [HRU.out,if_neg h1,if_pos h2])
  have o0:bits .or .i64 192 ((n:Int) / 64)=192+(n:Int) / 64:=Ld _ _ 5 (by decide) (by decide) (by decide) (by omega) (by omega) (by omega)
  have a9:bits .and .i64 (n:Int) 63=(n:Int) % 64:=V8 _ (by omega) (by omega)
  have o9:bits .or .i64 128 ((n:Int) % 64)=128+(n:Int) % 64:=Ld _ _ 6 (by decide) (by decide) (by decide) (by omega) (by omega) (by omega)
  have b0:=wQ (192+(n:Int) / 64) (0xC0+n / 64) (by omega) (by omega)
  have b1:=wQ (128+(n:Int) % 64) (0x80+n % 64) (by omega) (by omega)
  obtain ⟨y0,Cu⟩:∃ y:UInt8,y=UInt8.ofNat (0xC0+n / 64):=⟨_,rfl⟩
  rw [←Cu] at b0 HR
  obtain ⟨y1,xN⟩:∃ y:UInt8,y=UInt8.ofNat (0x80+n % 64):=⟨_,rfl⟩
  rw [←xN] at b1 HR
  clear Cu xN
  have EZ:=CH w [y0,y1] 2 rfl
  simp only [List.map_cons,List.map_nil] at EZ
  (refine vg ?_;intro K hK)
  (refine cW ?_)
  exact ⟨by rw [HR.out],(aK.refl _ w).alloc _⟩
 have c2:¬ (n:Int)<2048:=by omega
 by_cases h3:n<65536
 ·have c3:(n:Int)<65536:=by omega
  have HR:=Lh (show fN n=[UInt8.ofNat (0xE0+n / 4096),UInt8.ofNat (0x80+n / 64 % 64),UInt8.ofNat (0x80+n % 64)] by rw [HRU.out,if_neg h1,if_neg h2,if_pos h3])
  have o0:bits .or .i64 224 ((n:Int) / 4096)=224+(n:Int) / 4096:=Ld _ _ 4 (by decide) (by decide) (by decide) (by omega) (by omega) (by omega)
  have a1:bits .and .i64 ((n:Int) / 64) 63=(n:Int) / 64 % 64:=V8 _ (by omega) (by omega)
  have o1:bits .or .i64 128 ((n:Int) / 64 % 64)=128+(n:Int) / 64 % 64:=Ld _ _ 6 (by decide) (by decide) (by decide) (by omega) (by omega) (by omega)
  have a9:bits .and .i64 (n:Int) 63=(n:Int) % 64:=V8 _ (by omega) (by omega)
  have o9:bits .or .i64 128 ((n:Int) % 64)=128+(n:Int) % 64:=Ld _ _ 6 (by decide) (by decide) (by decide) (by omega) (by omega) (by omega)
  have b0:=wQ (224+(n:Int) / 4096) (0xE0+n / 4096) (by omega) (by omega)
  have b1:=wQ (128+(n:Int) / 64 % 64) (0x80+n / 64 % 64) (by omega) (by omega)
  have b2:=wQ (128+(n:Int) % 64) (0x80+n % 64) (by omega) (by omega)
  obtain ⟨y0,Cu⟩:∃ y:UInt8,y=UInt8.ofNat (0xE0+n / 4096):=⟨_,rfl⟩
  rw [←Cu] at b0 HR
  obtain ⟨y1,xN⟩:∃ y:UInt8,y=UInt8.ofNat (0x80+n / 64 % 64):=⟨_,rfl⟩
  rw [←xN] at b1 HR
  obtain ⟨y2,E4⟩:∃ y:UInt8,y=UInt8.ofNat (0x80+n % 64):=⟨_,rfl⟩
  rw [←E4] at b2 HR
  clear Cu xN E4
  have EZ:=CH w [y0,y1,y2] 3 rfl
  simp only [List.map_cons,List.map_nil] at EZ
  (refine vg ?_;intro K hK)
  (refine cW ?_)
  exact ⟨by rw [HR.out],(aK.refl _ w).alloc _⟩
 have c3:¬ (n:Int)<65536:=by omega
 have HR:=Lh (show fN n=[UInt8.ofNat (0xF0+n / 262144),UInt8.ofNat (0x80+n / 4096 % 64),UInt8.ofNat (0x80+n / 64 % 64),UInt8.ofNat (0x80+n % 64)] by rw [HRU.out,if_neg h1,if_neg h2,if_neg h3])
 have o0:bits .or .i64 240 ((n:Int) / 262144)=240+(n:Int) / 262144:=Ld _ _ 3 (by decide) (by decide) (by decide) (by omega) (by omega) (by omega)
 have a1:bits .and .i64 ((n:Int) / 4096) 63=(n:Int) / 4096 % 64:=V8 _ (by omega) (by omega)
 have o1:bits .or .i64 128 ((n:Int) / 4096 % 64)=128+(n:Int) / 4096 % 64:=Ld _ _ 6 (by decide) (by decide) (by decide) (by omega) (by omega) (by omega)
 have a2:bits .and .i64 ((n:Int) / 64) 63=(n:Int) / 64 % 64:=V8 _ (by omega) (by omega)
 have o2:bits .or .i64 128 ((n:Int) / 64 % 64)=128+(n:Int) / 64 % 64:=Ld _ _ 6 (by decide) (by decide) (by decide) (by omega) (by omega) (by omega)
 have a9:bits .and .i64 (n:Int) 63=(n:Int) % 64:=V8 _ (by omega) (by omega)
 have o9:bits .or .i64 128 ((n:Int) % 64)=128+(n:Int) % 64:=Ld _ _ 6 (by decide) (by decide) (by decide) (by omega) (by omega) (by omega)
 have b0:=wQ (240+(n:Int) / 262144) (0xF0+n / 262144) (by omega) (by omega)
 have b1:=wQ (128+(n:Int) / 4096 % 64) (0x80+n / 4096 % 64) (by omega) (by omega)
 have b2:=wQ (128+(n:Int) / 64 % 64) (0x80+n / 64 % 64) (by omega) (by omega)
 have b3:=wQ (128+(n:Int) % 64) (0x80+n % 64) (by omega) (by omega)
 obtain ⟨y0,Cu⟩:∃ y:UInt8,y=UInt8.ofNat (0xF0+n / 262144):=⟨_,rfl⟩
 rw [←Cu] at b0 HR
 obtain ⟨y1,xN⟩:∃ y:UInt8,y=UInt8.ofNat (0x80+n / 4096 % 64):=⟨_,rfl⟩
 rw [←xN] at b1 HR
 obtain ⟨y2,E4⟩:∃ y:UInt8,y=UInt8.ofNat (0x80+n / 64 % 64):=⟨_,rfl⟩
 rw [←E4] at b2 HR
 obtain ⟨y3,Nt⟩:∃ y:UInt8,y=UInt8.ofNat (0x80+n % 64):=⟨_,rfl⟩
 rw [←Nt] at b3 HR
 clear Cu xN E4 Nt
 have EZ:=CH w [y0,y1,y2,y3] 4 rfl
 simp only [List.map_cons,List.map_nil] at EZ
 refine vg ?_
 (refine cW ?_)
 exact ⟨by rw [HR.out],(aK.refl _ w).alloc _⟩
end Go.Proofs.YtdjdjbpnbjdaaaaGreatDoor
