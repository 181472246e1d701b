/- Part of the proof that laws.FnRawTokens returns true for every argument. No conditions. -/
import Derived.Test.YtdjdjbpnbjdaaaaGreatDoorP28
set_option linter.all false
set_option maxHeartbeats 8000000
set_option maxRecDepth 100000
namespace Go.Proofs.YtdjdjbpnbjdaaaaGreatDoor
open Go Go.RowKit
def a2L (l:Bs) (w0:World) (k:Nat) (ac:Act) (w:World):Prop:=
 ∃ f i,ac=fr 16 f [(0,aB l),(5,.int .i64 (l.length:Nat)),(6,.int .i64 (i:Nat))]∧w0=w∧k=l.length-i∧i≤l.length∧(l.take i).contains 13=false
theorem Q1 (l:Bs) (hl:l.length≤1000000000) (w:World):Calls Tryz.prog 48 #[aB l] w fun e w'=>e=.returned (.bool (m6 l))∧w'=w:=by
 have HL:=Lh hl
 have P7:=Lh (Ie l hl w)
 clear hl
 refine eJ 16 Tryz.func48 [_] fun f=>?_
 simp only [aE]
 (refine vg ?_;intro K hK)
 (refine cJ [0,5,6] fun f=>?_)
 refine wp_loop_ghost_k (a2L l w) l.length ⟨f,0,rfl,rfl,rfl,Nat.zero_le _,rfl⟩ ?_
 rintro k _ _ ⟨f,i,rfl,rfl,hk,hi,hc⟩ J K2 hJ cY
 have HJ:=Lh hJ
 have dN:=Lh cY
 have HK:=Lh hk
 have HC:=Lh hc
 clear hJ cY hk hc
 by_cases bB:i<l.length
 ·have t0:(0:Int)≤(i:Int):=by omega
  have t1:(i:Int)<(l.length:Int):=by omega
  have wi:IntKind.i64.wrap ((i:Int)+1)=((i+1:Nat):Int):=by rw [IntKind.wrap_i64];have h2:=HL.out;omega
  have A6:=Lh (DO l i bB 13)
  obtain ⟨b,hb⟩:∃ b,b=l.getD i 0:=⟨_,rfl⟩
  have ix:∀ h,(⟨l.toArray⟩:ByteArray)[i]'h=b:=by rw [hb];exact jG l i bB
  rw [←hb] at A6
  have pO:=Lh hb
  clear hb
  by_cases fZ:b=13
  ·have hr:m6 l=false:=by
    have h1:l.contains 13=true:=by
     rw [List.contains_iff_mem]
     have:l[i]=13:=by rw [←fZ,pO.out];simp [List.getD_eq_getElem?_getD,bB]
     rw [←this];exact List.getElem_mem bB
    unfold m6;rw [h1];rfl
   have HR:=Lh hr
   clear hr pO A6
   subst fZ
   (revert K;refine vg ?_;(repeat with_reducible intro K hK))
   (refine cW ?_)
   exact ⟨by rw [HR.out],rfl⟩
  ·have he:((b.toNat:Int)==13)=false:=pP fZ
   have OQ:=Lh (show (l.take (i+1)).contains 13=false by rw [A6.out,HC.out,Bool.false_or,beq_eq_false_iff_ne];exact fun h=>fZ h.symm)
   clear fZ pO A6
   (revert K;refine vg ?_;intro K hK)
   (refine Kk [0,5,6] fun f=>?_)
   exact dN.out _ _ ⟨l.length-(i+1),by rw [HK.out];omega,HJ.out _ _ _ ⟨f,i+1,rfl,rfl,rfl,bB,OQ.out⟩⟩
 ·have sX:i=l.length:=by omega
  subst sX
  have t1:¬ ((l.length:Int)<(l.length:Int)):=by omega
  have HR:=Lh (show m6 l=bI l by
   have:=HC.out
   rw [List.take_length] at this
   unfold m6;rw [this];rfl)
  (revert K;refine vg ?_;(repeat with_reducible intro K hK))
  refine P7.out.mono ?_
  rintro e w' ⟨rfl,rfl⟩
  ((repeat revert K);refine vS ?_)
  (refine cW ?_)
  exact ⟨by rw [HR.out],rfl⟩
theorem cX (q:UInt8) (T:Bs) (a:Nat) (ha:a<T.length):([q]:Bs).isPrefixOf (T.drop a)=(q==T.getD a 0):=by
 rw [bT T a ha]
 show ((q==T.getD a 0)&&List.isPrefixOf [] (T.drop (a+1)))=_
 cases (q==T.getD a 0)<;>rfl
theorem Kv {p T:Bs} {a:Nat} (h:p.isPrefixOf (T.drop a)=true) (ha:a<T.length):dC p (T.drop a)=some ([],T.drop (a+p.length)):=by
 rw [bT T a ha] at h ⊢
 unfold dC
 rw [if_pos h,←bT T a ha,List.drop_drop]
theorem Cl {p T:Bs} {a:Nat} (h:p.isPrefixOf (T.drop a)=false) (ha:a<T.length):dC p (T.drop a)=(dC p (T.drop (a+1))).map fun x=>(T.getD a 0::x.1,x.2):=by
 rw [bT T a ha] at h ⊢
 conv=>lhs;unfold dC
 rw [if_neg (by rw [h];simp)]
theorem Kw {p T:Bs} {a:Nat} (ha:T.length≤a):dC p (T.drop a)=none:=by rw [List.drop_eq_nil_of_le ha];rfl
def nB (T p:Bs) (i a:Nat):Prop:=dC p (T.drop i)=(dC p (T.drop a)).map fun x=>((T.drop i).take (a-i)++x.1,x.2)
theorem nB.start (T p:Bs) (i:Nat):nB T p i i:=by
 unfold nB
 cases dC p (T.drop i)<;>simp
theorem nB.next {T p:Bs} {i a:Nat} (h:nB T p i a) (hia:i≤a) (hm:p.isPrefixOf (T.drop a)=false) (ha:a<T.length):nB T p i (a+1):=by
 unfold nB at h ⊢
 rw [h,Cl hm ha,zP T i a hia ha]
 cases dC p (T.drop (a+1))<;>simp
theorem nB.hit {T p:Bs} {i a:Nat} (h:nB T p i a) (hm:p.isPrefixOf (T.drop a)=true) (ha:a<T.length):dC p (T.drop i)=some ((T.drop i).take (a-i),T.drop (a+p.length)):=by
 unfold nB at h
 rw [h,Kv hm ha];simp
theorem nB.none {T p:Bs} {i a:Nat} (h:nB T p i a) (ha:T.length≤a):dC p (T.drop i)=none:=by
 unfold nB at h
 rw [h,Kw ha];rfl
theorem lU {p T:Bs} {a:Nat} (h:p.isPrefixOf (T.drop a)=true) (hp:0<p.length):a<T.length:=by
 have:=JC h
 rw [List.length_drop] at this
 omega
def a2M (x:PX) (c:PC) (w0:World) (k:Nat) (ac:Act) (w:World):Prop:=
 ∃ f a,ac=fr 48 f [(0,oM x),(3,.int .i64 (c.at':Nat))]∧aU x w { c with at':=a }∧aK (fun k=>k=x.p) w0 w∧k=x.T.length-a∧a≤x.T.length∧c.at'≤a∧nB x.T [45,45] c.at' a
def oV (f:Bs→aP) (opens:List Bs) (bound:List aO) (r:Except SV (Bs×Bs)):Except SV (List aP×iV):=match r with
 | .error e=>.error e
 | .ok (d,r)=>.ok ([f d],⟨r,opens,bound⟩)
theorem Q2 (x:PX) (hT:x.T.length≤1000000000) (base:Nat) (w:World) (c:PC) (opens:List Bs) (bound:List aO) (out:List cH) (h:hY x base w c opens bound out) (bF:out.length≤1000000000) (ha:c.at'≤x.T.length) :
  Calls Tryz.prog 22 #[oM x] w (gW x base out w (oV .comment opens bound (cZ (x.T.drop c.at')))):=by
 have hc:=h.blk.cell
 have hf:=h.blk.frozen
 have H:=Lh h
 have HT:=Lh hT
 have HA:=Lh ha
 have cL:=Lh bF
 clear h hT ha bF
 refine eJ 48 Tryz.func22 [_] fun f=>?_
 simp only [aE]
 (refine vg ?_;intro K hK)
 (refine cJ [0,3] fun f=>?_)
 refine wp_loop_ghost_k (a2M x c w) (x.T.length-c.at') ⟨f,c.at',rfl,H.out.blk,aK.refl _ w,rfl,HA.out,Nat.le_refl _,nB.start _ _ _⟩ ?_
 clear hc hf
 rintro k _ w2 ⟨f,a,rfl,hp,hm,hk,iK,vV,hcut⟩ J K2 hJ cY
 have HJ:=Lh hJ
 have dN:=Lh cY
 have HP:=Lh hp
 have HM:=Lh hm
 have HK:=Lh hk
 have kA:=Lh iK
 have sN:=Lh vV
 have Q3:=Lh hcut
 clear hJ cY hp hm hk iK vV hcut
 cases gM:([45,45]:Bs).isPrefixOf (x.T.drop a) with
 | true=>
  have HH:=Lh (jE x HT.out w2 { c with at':=a } HP.out kA.out [45,45] (by decide) gM)
  have zW:=Lh (lU gM (by decide))
  have A6:=Lh (Q3.out.hit gM zW.out)
  have tI:=Lh (qE gM kA.out)
  clear gM
  (revert K;refine vg ?_;(repeat with_reducible intro K hK))
  refine HH.out.mono ?_
  rintro e3 w3 ⟨rfl,eK,cD⟩
  have eP:=Lh (show aU x w3 { c with at':=a+2 } from eK)
  have fM:=Lh (HM.out.trans cD (fun _ _ h=>h))
  clear eK cD HH
  go_simp
  have hc:=eP.out.cell
  have hf:=eP.out.frozen
  have z1:(0:Int)≤(c.at':Int):=by omega
  have w2':IntKind.i64.wrap (a:Int)=(a:Int):=by rw [IntKind.wrap_i64];have h8:=tI.out;have h9:=HT.out;simp at h8;omega
  have z2:(c.at':Int)≤(a:Int):=by have:=sN.out;omega
  have z3:(a:Int)≤(x.T.length:Int):=by have:=kA.out;omega
  ((repeat revert K);refine vg ?_;intro K hK)
  (refine aI [0,0,0,1,0,0,0,0,1,0,0,0] [0,1,2,3,4,5,6,7,8,9,10,11] (by kernel_rfl) (by kernel_rfl) ?_;refine vP ?_;repeat with_reducible intro nq)
  rw [lO]
  obtain ⟨s,hs⟩:∃ s,s=(x.T.drop c.at').take (a-c.at'):=⟨_,rfl⟩
  rw [←hs]
  rw [←hs] at A6
  have OV:=Lh (show s.length≤1000000000 by rw [hs,List.length_take,List.length_drop];have:=HT.out;omega)
  clear hs hc hf
  have HV:=Lh (fun w=>Q1 s OV.out w)
  have a2N:=Lh (show aU x (w3.drewN nq) { c with at':=a+2 } from eP.out)
  have a2O:=Lh (show aK (fun k=>k=x.p) w (w3.drewN nq) from fM.out.drewN _)
  have HCS:=Lh (show cZ (x.T.drop c.at')=match x.T.drop (a+2) with
    | []=>.error .bad
    | b::r2=>if b=62 then (if m6 s then .ok (s,r2) else .error .opn) else .error .bad by unfold cZ;rw [A6.out];rfl)
  cases qJ:([62]:Bs).isPrefixOf (x.T.drop (a+2)) with
  | true=>
   have HH:=Lh (jE x HT.out (w3.drewN nq) { c with at':=a+2 } a2N.out tI.out [62] (by decide) qJ)
   have Vh:=Lh (lU qJ (by decide))
   have Kx:=Lh (show cZ (x.T.drop c.at')=if m6 s then .ok (s,x.T.drop (a+3)) else .error .opn by
    have h9:=cX 62 x.T (a+2) Vh.out
    rw [qJ] at h9
    have gN:x.T.getD (a+2) 0=62:=(beq_iff_eq.1 h9.symm).symm
    rw [HCS.out,bT x.T (a+2) Vh.out]
    rw [gN];rfl)
   clear qJ
   (revert K;refine vg ?_;(repeat with_reducible intro K hK))
   refine HH.out.mono ?_
   rintro e4 w4 ⟨rfl,tJ,l5⟩
   have xQ:=Lh (show aU x w4 { c with at':=a+3 } from tJ)
   have o6:=Lh (a2O.out.trans l5 (fun _ _ h=>h))
   clear tJ l5 HH
   ((repeat revert K);refine vS ?_;(repeat with_reducible intro K hK))
   refine (HV.out _).mono ?_
   rintro e5 w5 ⟨rfl,rfl⟩
   go_simp
   cases hv:m6 s with
   | true=>
    have FX:=Lh (vK x base w w5 c opens bound out H.out cL.out (a+3) (by have:=Vh.out;omega) xQ.out o6.out (.comment s) rfl (oV .comment opens bound (cZ (x.T.drop c.at'))) (by rw [Kx.out,if_pos hv];rfl))
    ((repeat revert K);refine vg ?_;(repeat with_reducible intro K hK))
    refine FX.out.mono ?_
    rintro e6 w6 ⟨rfl,h6⟩
    have H6:=Lh h6
    clear h6
    ((repeat revert K);refine vS ?_)
    (refine cW ?_)
    exact H6.out
   | false=>
    have HF:=Lh (mV x w5 { c with at':=a+3 } xQ.out 2)
    ((repeat revert K);refine vg ?_;(repeat with_reducible intro K hK))
    refine HF.out.mono ?_
    rintro e6 w6 ⟨rfl,gD,eQ⟩
    have jS:=Lh gD
    have jU:=Lh eQ
    clear gD eQ
    ((repeat revert K);refine vS ?_;intro K hK)
    (refine cW ?_)
    exact gW.err (w1:=w) (k:=.opn) H.out jS.out (o6.out.trans jU.out (fun _ _ h=>h)) (by rw [Kx.out,if_neg (by rw [hv];simp)];rfl)
  | false=>
   have HH:=Lh (iP x HT.out (w3.drewN nq) { c with at':=a+2 } a2N.out tI.out [62] (by decide) qJ)
   have Kx:=Lh (show cZ (x.T.drop c.at')=.error .bad by
    rw [HCS.out]
    by_cases KT:a+2<x.T.length
    ·have gN:¬ x.T.getD (a+2) 0=62:=by
      intro hh
      have h9:=cX 62 x.T (a+2) KT
      rw [qJ,hh] at h9
      cases h9
     rw [bT x.T (a+2) KT]
     simp only [if_neg gN]
    ·rw [List.drop_eq_nil_of_le (by omega)])
   clear qJ
   (revert K;refine vg ?_;(repeat with_reducible intro K hK))
   refine HH.out.mono ?_
   rintro e4 w4 ⟨rfl,tJ,l5⟩
   have xQ:=Lh tJ
   have o6:=Lh (a2O.out.trans l5 (fun _ _ h=>h))
   have HF:=Lh (mV x w4 { c with at':=a+2 } tJ 1)
   clear tJ l5 HH
   ((repeat revert K);refine vS ?_;(repeat with_reducible intro K hK))
   refine HF.out.mono ?_
   rintro e6 w6 ⟨rfl,gD,eQ⟩
   have jS:=Lh gD
   have jU:=Lh eQ
   clear gD eQ
   ((repeat revert K);refine vS ?_;intro K hK)
   (refine cW ?_)
   exact gW.err (w1:=w) (k:=.bad) H.out jS.out (o6.out.trans jU.out (fun _ _ h=>h)) (by rw [Kx.out];rfl)
 | false=>
  have HH:=Lh (iP x HT.out w2 { c with at':=a } HP.out kA.out [45,45] (by decide) gM)
  by_cases bB:a<x.T.length
  ·have A6:=Lh (Q3.out.next sN.out gM bB)
   clear gM
   (revert K;refine vg ?_;(repeat with_reducible intro K hK))
   refine HH.out.mono ?_
   rintro e3 w3 ⟨rfl,eK,cD⟩
   have eP:=Lh eK
   have fM:=Lh (HM.out.trans cD (fun _ _ h=>h))
   have HE:=Lh (qD x w3 { c with at':=a } eK bB)
   clear eK cD HH
   ((repeat revert K);refine vS ?_;(repeat with_reducible intro K hK))
   refine HE.out.mono ?_
   rintro e4 w4 ⟨rfl,k4,rfl⟩
   have hc:=(show aU x (w3.drewN k4) { c with at':=a } from eP.out).cell
   have hf:=(show aU x (w3.drewN k4) { c with at':=a } from eP.out).frozen
   have w1:IntKind.i64.wrap ((a:Int)+1)=((a+1:Nat):Int):=by rw [IntKind.wrap_i64];have:=HT.out;omega
   ((repeat revert K);refine vS ?_;intro K hK)
   (refine Kk [0,3] fun f=>?_)
   refine dN.out _ _ ⟨x.T.length-(a+1),by rw [HK.out];omega,HJ.out _ _ _ ⟨f,a+1,rfl,?_,aK.setCell (S:=fun k=>k=x.p) (fM.out.drewN _) (p:=⟨x.p,1,none⟩) (Or.inl rfl) _,rfl,bB,by have:=sN.out;omega,A6.out⟩⟩
   exact aJ.set (w:=w3.drewN _) (cs:=gV x { c with at':=a }) eP.out 1 _
  ·have A6:=Lh (Q3.out.none (by omega))
   have HR:=Lh (show cZ (x.T.drop c.at')=.error .bad by unfold cZ;rw [A6.out])
   clear gM
   (revert K;refine vg ?_;(repeat with_reducible intro K hK))
   refine HH.out.mono ?_
   rintro e3 w3 ⟨rfl,eK,cD⟩
   have eP:=Lh eK
   have fM:=Lh (HM.out.trans cD (fun _ _ h=>h))
   have HE:=Lh (qC x w3 { c with at':=a } eK (by simp;omega))
   clear eK cD HH
   ((repeat revert K);refine vS ?_;(repeat with_reducible intro K hK))
   refine HE.out.mono ?_
   rintro e4 w4 ⟨rfl,k4,rfl⟩
   have HF:=Lh (mV x (w3.drewN k4) { c with at':=a } eP.out 1)
   ((repeat revert K);refine vS ?_;(repeat with_reducible intro K hK))
   refine HF.out.mono ?_
   rintro e6 w6 ⟨rfl,gD,eQ⟩
   have jS:=Lh gD
   have jU:=Lh eQ
   clear gD eQ
   ((repeat revert K);refine vS ?_;(repeat with_reducible intro K hK))
   (refine cW ?_)
   exact gW.err (w1:=w) (k:=.bad) H.out jS.out ((fM.out.drewN _).trans jU.out (fun _ _ h=>h)) (by rw [HR.out];rfl)
theorem mP (a b:Bs):(⟨a.toArray⟩:ByteArray)++⟨b.toArray⟩=⟨(a++b).toArray⟩:=by
 apply ByteArray.ext
 rw [ByteArray.data_append];simp
theorem CD (a:Bs):(⟨a.toArray⟩:ByteArray)++⟨#[10]⟩=⟨(a++[10]).toArray⟩:=mP a [10]
theorem vL (q r:UInt8) (T:Bs) (a:Nat) (ha:a<T.length):([q,r]:Bs).isPrefixOf (T.drop a)=((q==T.getD a 0)&&([r]:Bs).isPrefixOf (T.drop (a+1))):=by
 rw [bT T a ha];rfl
theorem NL {T:Bs} {a m:Nat} {out:Bs} (h:T.length≤a):eG (m+1) (T.drop a) out=.error .bad:=by
 rw [List.drop_eq_nil_of_le h];rfl
theorem yK {T:Bs} {a m:Nat} {out:Bs} (h:pZ.isPrefixOf (T.drop a)=true):eG (m+1) (T.drop a) out=.ok (out,T.drop (a+3)):=by
 have ha:=lU h (by decide)
 have e:T.drop (a+3)=(T.drop (a+1)).drop 2:=by rw [List.drop_drop]
 rw [e]
 rw [bT T a ha] at h ⊢
 unfold eG
 simp only [if_pos h]
theorem S9 (T:Bs) (a:Nat) (ha:a<T.length) (f:Bs→Except SV (Bs×Bs)):(match T.drop (a+1) with|[]=>f []|c::r2=>if c=10 then f r2 else f (c::r2))=if ([10]:Bs).isPrefixOf (T.drop (a+1)) then f (T.drop (a+2)) else f (T.drop (a+1)):=by
 by_cases h:a+1<T.length
 ·rw [cX 10 T (a+1) h,bT T (a+1) h]
  by_cases gN:T.getD (a+1) 0=10
  ·show (if T.getD (a+1) 0=10 then _ else _)=_
   rw [if_pos gN,if_pos (by rw [gN];rfl)]
  ·show (if T.getD (a+1) 0=10 then _ else _)=_
   rw [if_neg gN,if_neg (by rw [beq_iff_eq];exact fun hh=>gN hh.symm)]
 ·rw [List.drop_eq_nil_of_le (by omega)];rfl
theorem CE {T:Bs} {a m:Nat} {out:Bs} (ha:a<T.length) (h:pZ.isPrefixOf (T.drop a)=false) (fZ:T.getD a 0=13):eG (m+1) (T.drop a) out=if ([10]:Bs).isPrefixOf (T.drop (a+1)) then eG m (T.drop (a+2)) (out++[10]) else eG m (T.drop (a+1)) (out++[10]):=by
 rw [←S9 T a ha (fun r=>eG m r (out++[10]))]
 rw [bT T a ha] at h ⊢
 conv=>lhs;unfold eG
 simp only [h,fZ]
 rfl
theorem CF {T:Bs} {a m:Nat} {out:Bs} (ha:a<T.length) (h:pZ.isPrefixOf (T.drop a)=false) (fZ:¬ T.getD a 0=13):eG (m+1) (T.drop a) out=if (aF (T.drop a)).2=0∨bU (aF (T.drop a)).1=false then .error .bad else eG m (T.drop (a+(aF (T.drop a)).2)) (out++(T.drop a).take (aF (T.drop a)).2):=by
 rw [←List.drop_drop]
 rw [bT T a ha] at h ⊢
 conv=>lhs;unfold eG
 simp only [h,fZ,Bool.false_eq_true,if_false]
def a2P (x:PX) (c:PC) (w0:World) (k:Nat) (ac:Act) (w:World):Prop:=
 ∃ f a o m,ac=fr 72 f [(0,oM x),(3,aB o)]∧aU x w { c with at':=a }∧aK (fun k=>k=x.p) w0 w∧k=x.T.length-a∧a≤x.T.length∧o.length≤a∧x.T.length-a<m∧eG (x.T.length+1) (x.T.drop c.at') []=eG m (x.T.drop a) o
theorem Q4 (x:PX) (hT:x.T.length≤1000000000) (base:Nat) (w:World) (c:PC) (opens:List Bs) (bound:List aO) (out:List cH) (h:hY x base w c opens bound out) (bF:out.length≤1000000000) (ha:c.at'≤x.T.length) :
  Calls Tryz.prog 23 #[oM x] w (gW x base out w (oV .text opens bound (eG (x.T.length+1) (x.T.drop c.at') []))):=by
 have H:=Lh h
 have HT:=Lh hT
 have HA:=Lh ha
 have cL:=Lh bF
 clear h hT ha bF
 refine eJ 72 Tryz.func23 [_] fun f=>?_
 simp only [aE]
 (refine vg ?_;intro K hK)
 (refine cJ [0,3] fun f=>?_)
 refine wp_loop_ghost_k (a2P x c w) (x.T.length-c.at') ⟨f,c.at',[],x.T.length+1,rfl,H.out.blk,aK.refl _ w,rfl,HA.out,Nat.zero_le _,by omega,rfl⟩ ?_
 rintro k _ w2 ⟨f,a,o,m,rfl,hp,hm,hk,iK,BG,GN,rE⟩ J K2 hJ cY
 obtain ⟨m',rfl⟩:∃ m',m=m'+1:=⟨m-1,by omega⟩
 have HJ:=Lh hJ
 have dN:=Lh cY
 have HP:=Lh hp
 have HM:=Lh hm
 have HK:=Lh hk
 have kA:=Lh iK
 have xD:=Lh BG
 have sO:=Lh GN
 have vH:=Lh rE
 have a1:¬ 9223372036854775807<o.length+1:=by have:=HT.out;omega
 clear hJ cY hp hm hk iK BG GN rE
 cases gM:pZ.isPrefixOf (x.T.drop a) with
 | true=>
  have HH:=Lh (jE x HT.out w2 { c with at':=a } HP.out kA.out [93,93,62] (by decide) gM)
  have tI:=Lh (qE gM kA.out)
  have HR:=Lh (vH.out.trans (yK gM))
  clear gM
  (revert K;refine vg ?_;(repeat with_reducible intro K hK))
  refine HH.out.mono ?_
  rintro e3 w3 ⟨rfl,eK,cD⟩
  have eP:=Lh (show aU x w3 { c with at':=a+3 } from eK)
  have fM:=Lh (HM.out.trans cD (fun _ _ h=>h))
  have FX:=Lh (vK x base w w3 c opens bound out H.out cL.out (a+3) tI.out eP.out fM.out (.text o) rfl (oV .text opens bound (eG (x.T.length+1) (x.T.drop c.at') [])) (by rw [HR.out];rfl))
  clear eK cD HH
  ((repeat revert K);refine vS ?_;(repeat with_reducible intro K hK))
  refine FX.out.mono ?_
  rintro e6 w6 ⟨rfl,h6⟩
  have H6:=Lh h6
  clear h6
  ((repeat revert K);refine vS ?_)
  (refine cW ?_)
  exact H6.out
 | false=>
  have a2Q:=Lh gM
  have HH:=Lh (iP x HT.out w2 { c with at':=a } HP.out kA.out [93,93,62] (by decide) gM)
  clear gM
  by_cases bB:a<x.T.length
  ·(revert K;refine vg ?_;(repeat with_reducible intro K hK))
   refine HH.out.mono ?_
   rintro e3 w3 ⟨rfl,eK,cD⟩
   have eP:=Lh eK
   have fM:=Lh (HM.out.trans cD (fun _ _ h=>h))
   have HE:=Lh (qD x w3 { c with at':=a } eK bB)
   clear eK cD HH
   ((repeat revert K);refine vS ?_;(repeat with_reducible intro K hK))
   refine HE.out.mono ?_
   rintro e4 w4 ⟨rfl,k4,rfl⟩
   have xQ:=Lh (show aU x (w3.drewN k4) { c with at':=a } from eP.out)
   have o6:=Lh (fM.out.drewN k4)
   obtain ⟨w4,AZ⟩:∃ w4,w4=w3.drewN k4:=⟨_,rfl⟩
   rw [←AZ] at xQ o6
   go_simp
   rw [←AZ]
   clear AZ HE eP fM
   by_cases fZ:x.T.getD a 0=13
   ·have HR:=Lh (vH.out.trans (CE bB a2Q.out fZ))
    cases gN:([10]:Bs).isPrefixOf (x.T.drop (a+1)) with
    | true=>
     have GX:([13,10]:Bs).isPrefixOf (x.T.drop a)=true:=by rw [vL 13 10 x.T a bB,fZ,gN];rfl
     have HH:=Lh (jE x HT.out w4 { c with at':=a } xQ.out kA.out [13,10] (by decide) GX)
     have tI:=Lh (qE GX kA.out)
     have fB:=Lh (HR.out.trans (if_pos gN))
     clear GX gN fZ
     ((repeat revert K);refine vg ?_;(repeat with_reducible intro K hK))
     refine HH.out.mono ?_
     rintro e5 w5 ⟨rfl,nZ,fL⟩
     have rL:=Lh (show aU x w5 { c with at':=a+2 } from nZ)
     have pY:=Lh (o6.out.trans fL (fun _ _ h=>h))
     clear nZ fL HH
     ((repeat revert K);refine vS ?_;(repeat with_reducible intro K hK))
     (refine Kk [0,3] fun f=>?_)
     rw [CD]
     exact dN.out _ _ ⟨x.T.length-(a+2),by rw [HK.out];omega,HJ.out _ _ _ ⟨f,a+2,o++[10],m',rfl,rL.out,pY.out,rfl,by have:=tI.out;simpa using this,by have:=xD.out;rw [List.length_append];simp;omega,by have:=sO.out;omega,fB.out⟩⟩
    | false=>
     have GQ:([13,10]:Bs).isPrefixOf (x.T.drop a)=false:=by rw [vL 13 10 x.T a bB,fZ,gN];rfl
     have GX:([13]:Bs).isPrefixOf (x.T.drop a)=true:=by rw [cX 13 x.T a bB,fZ];rfl
     have Ph:=Lh (iP x HT.out w4 { c with at':=a } xQ.out kA.out [13,10] (by decide) GQ)
     have HH:=Lh (fun w h=>jE x HT.out w { c with at':=a } h kA.out [13] (by decide) GX)
     have fB:=Lh (HR.out.trans (if_neg (by rw [gN];simp)))
     clear GX gN fZ GQ
     ((repeat revert K);refine vg ?_;(repeat with_reducible intro K hK))
     refine Ph.out.mono ?_
     rintro e5 w5 ⟨rfl,nZ,fL⟩
     have rL:=Lh nZ
     have pY:=Lh (o6.out.trans fL (fun _ _ h=>h))
     clear nZ fL Ph
     ((repeat revert K);refine vS ?_;(repeat with_reducible intro K hK))
     refine (HH.out w5 rL.out).mono ?_
     rintro e6 w6 ⟨rfl,gD,eQ⟩
     have jS:=Lh (show aU x w6 { c with at':=a+1 } from gD)
     have jU:=Lh (pY.out.trans eQ (fun _ _ h=>h))
     clear gD eQ HH
     ((repeat revert K);refine vS ?_;(repeat with_reducible intro K hK))
     (refine Kk [0,3] fun f=>?_)
     rw [CD]
     exact dN.out _ _ ⟨x.T.length-(a+1),by rw [HK.out];omega,HJ.out _ _ _ ⟨f,a+1,o++[10],m',rfl,jS.out,jU.out,rfl,bB,by have:=xD.out;rw [List.length_append];simp;omega,by have:=sO.out;omega,fB.out⟩⟩
   ·have GQ:([13,10]:Bs).isPrefixOf (x.T.drop a)=false:=by rw [vL 13 10 x.T a bB,beq_eq_false_iff_ne.2 (fun h=>fZ h.symm)];rfl
    have Cm:([13]:Bs).isPrefixOf (x.T.drop a)=false:=by rw [cX 13 x.T a bB,beq_eq_false_iff_ne.2 (fun h=>fZ h.symm)]
    have HR:=Lh (vH.out.trans (CF bB a2Q.out fZ))
    have Ph:=Lh (iP x HT.out w4 { c with at':=a } xQ.out kA.out [13,10] (by decide) GQ)
    have a2R:=Lh (fun w h=>iP x HT.out w { c with at':=a } h kA.out [13] (by decide) Cm)
    have cB:x.T.drop a≠[]:=fun hh=>by have:=congrArg List.length hh;simp at this;omega
    have HW:=Lh (m9 (x.T.drop a) cB)
    have HD:=Lh (fun w=>nW (x.T.drop a) cB w)
    clear GQ Cm fZ cB
    ((repeat revert K);refine vg ?_;(repeat with_reducible intro K hK))
    refine Ph.out.mono ?_
    rintro e5 w5 ⟨rfl,nZ,fL⟩
    have rL:=Lh nZ
    have pY:=Lh (o6.out.trans fL (fun _ _ h=>h))
    clear nZ fL Ph
    ((repeat revert K);refine vS ?_;(repeat with_reducible intro K hK))
    refine (a2R.out w5 rL.out).mono ?_
    rintro e6 w6 ⟨rfl,gD,eQ⟩
    have jS:=Lh gD
    have jU:=Lh (pY.out.trans eQ (fun _ _ h=>h))
    clear gD eQ a2R rL pY xQ o6
    go_simp
    have hc:=jS.out.cell
    have hf:=jS.out.frozen
    have z1:(0:Int)≤(a:Int):=by omega
    have z3:(a:Int)≤(x.T.length:Int):=by omega
    obtain ⟨r,hr⟩:∃ r,r=(aF (x.T.drop a)).1:=⟨_,rfl⟩
    obtain ⟨n,hn⟩:∃ n,n=(aF (x.T.drop a)).2:=⟨_,rfl⟩
    rw [←hr] at HD HR
    rw [←hn] at HD HR HW
    clear hr hn
    ((repeat revert K);refine vg ?_;(repeat with_reducible intro K hK))
    (refine aI [0,0,0,1,0,0,0,1,0,2,0,0,0,0,0] [0,1,2,3,4,5,6,7,8,9,10,11,12,13,14] (by kernel_rfl) (by kernel_rfl) ?_;refine vP ?_;repeat with_reducible intro nq)
    rw [jI]
    (refine bK rfl rfl (fun nq K hK=>?_);go_simp)
    refine (HD.out _).mono ?_
    rintro e7 w7 ⟨rfl,rfl⟩
    (go_simp;refine hK.out _ _ ?_;clear hK K)
    (refine vP ?_;repeat with_reducible intro nq)
    have HF:=Lh (fun (w':World) (h1:aU x w' { c with at':=a }) (h2:aK (fun k=>k=x.p) w w') (v:Int)=>mO x w w' { c with at':=a } h1 h2 v)
    by_cases hn:n=0
    ·have fB:=Lh (HR.out.trans (if_pos (Or.inl hn)))
     subst hn
     ((repeat revert K);refine vg ?_;(repeat with_reducible intro K hK))
     refine (HF.out _ (by exact jS.out) (by exact eF jU.out rfl rfl rfl rfl) _).mono ?_
     rintro e8 w8 ⟨rfl,TA,kZ⟩
     have OW:=Lh TA
     have GY:=Lh kZ
     clear TA kZ
     ((repeat revert K);refine vS ?_;(repeat with_reducible intro K hK))
     (refine cW ?_)
     exact gW.err (w1:=w) (k:=.bad) H.out OW.out GY.out (by rw [fB.out];rfl)
    have pH:((n:Int)==0)=false:=by rw [beq_eq_false_iff_ne];omega
    have HN:=Lh hn
    have HIC:=Lh (fun w=>yA r w)
    clear hn
    ((repeat revert K);refine vg ?_;(repeat with_reducible intro K hK))
    refine (HIC.out _).mono ?_
    rintro e8 w8 ⟨rfl,rfl⟩
    go_simp
    cases JG:bU r with
    | false=>
     have fB:=Lh (HR.out.trans (if_pos (Or.inr JG)))
     ((repeat revert K);refine vg ?_;(repeat with_reducible intro K hK))
     refine (HF.out _ (by exact jS.out) (by exact eF jU.out rfl rfl rfl rfl) _).mono ?_
     rintro e8 w8 ⟨rfl,TA,kZ⟩
     have OW:=Lh TA
     have GY:=Lh kZ
     clear TA kZ
     ((repeat revert K);refine vS ?_;(repeat with_reducible intro K hK))
     (refine cW ?_)
     exact gW.err (w1:=w) (k:=.bad) H.out OW.out GY.out (by rw [fB.out];rfl)
    | true=>
     have fB:=Lh (HR.out.trans (if_neg (fun hh=>hh.elim HN.out (fun h=>Bool.noConfusion (JG.symm.trans h)))))
     have wn:IntKind.i64.wrap ((a:Int)+(n:Int))=(a:Int)+(n:Int):=by rw [IntKind.wrap_i64];have h1:=HW.out;have h2:=HT.out;rw [List.length_drop] at h1;omega
     have z4:(a:Int)≤(a:Int)+(n:Int):=by omega
     have z5:(a:Int)+(n:Int)≤(x.T.length:Int):=by have h1:=HW.out;rw [List.length_drop] at h1;omega
     have z6:(0:Int)≤(a:Int)+(n:Int):=by omega
     have zn:((a:Int)+(n:Int)).toNat=a+n:=by omega
     clear JG
     ((repeat revert K);refine vg ?_;(repeat with_reducible intro K hK))
     (refine aI [0,0,0,0,1,0,0,0,1,0,0,0,1,0,0,0,0,0] [0,1,2,3,4,5,6,7,8,9,10,11,12,13,14,15,16,17] (by kernel_rfl) (by kernel_rfl) ?_;refine vP ?_;repeat with_reducible intro nq)
     rw [lO,Nat.add_sub_cancel_left]
     obtain ⟨t,ht⟩:∃ t,t=(x.T.drop a).take n:=⟨_,rfl⟩
     have wM:=Lh (show t.length=n by rw [ht,List.length_take];have h1:=HW.out;omega)
     rw [←ht] at fB ⊢
     have a2:¬ 9223372036854775807<o.length+t.length:=by have h1:=HW.out;have h2:=HT.out;have h3:=xD.out;have h4:=wM.out;rw [List.length_drop] at h1;omega
     clear ht zn
     (refine vP ?_;repeat with_reducible intro nq)
     rw [mP]
     ((repeat revert K);refine vg ?_;intro K hK)
     (refine Kk [0,3] fun f=>?_)
     refine dN.out _ _ ⟨x.T.length-(a+n),by rw [HK.out];have:=HN.out;omega,HJ.out _ _ _ ⟨f,a+n,o++t,m',rfl,?_,aK.setCell (S:=fun k=>k=x.p) (jU.out.drewN _) (p:=⟨x.p,1,none⟩) (Or.inl rfl) _,rfl,by have h1:=HW.out;rw [List.length_drop] at h1;omega,by have:=xD.out;have:=wM.out;rw [List.length_append];omega,by have:=sO.out;have:=HN.out;omega,fB.out⟩⟩
     exact aJ.set (w:=w6.drewN _) (cs:=gV x { c with at':=a }) jS.out 1 _
  ·have HR:=Lh (vH.out.trans (NL (m:=m') (out:=o) (by omega)))
   (revert K;refine vg ?_;(repeat with_reducible intro K hK))
   refine HH.out.mono ?_
   rintro e3 w3 ⟨rfl,eK,cD⟩
   have eP:=Lh eK
   have fM:=Lh (HM.out.trans cD (fun _ _ h=>h))
   have HE:=Lh (qC x w3 { c with at':=a } eK (by simp;omega))
   clear eK cD HH
   ((repeat revert K);refine vS ?_;(repeat with_reducible intro K hK))
   refine HE.out.mono ?_
   rintro e4 w4 ⟨rfl,k4,rfl⟩
   have HF:=Lh (mV x (w3.drewN k4) { c with at':=a } eP.out 1)
   ((repeat revert K);refine vS ?_;(repeat with_reducible intro K hK))
   refine HF.out.mono ?_
   rintro e6 w6 ⟨rfl,gD,eQ⟩
   have jS:=Lh gD
   have jU:=Lh eQ
   clear gD eQ
   ((repeat revert K);refine vS ?_;(repeat with_reducible intro K hK))
   (refine cW ?_)
   exact gW.err (w1:=w) (k:=.bad) H.out jS.out ((fM.out.drewN _).trans jU.out (fun _ _ h=>h)) (by rw [HR.out];rfl)
end Go.Proofs.YtdjdjbpnbjdaaaaGreatDoor
