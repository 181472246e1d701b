/- Part of the proof that laws.FnRawTokens returns true for every argument. No conditions. -/
import Derived.Test.YtdjdjbpnbjdaaaaGreatDoorP13
import Derived.Test.YtdjdjbpnbjdaaaaGreatDoorP01
import Derived.Maps.AppendAt
import Derived.ScopeJumps
set_option linter.all false
set_option maxHeartbeats 8000000
set_option maxRecDepth 100000
namespace Go.Proofs.YtdjdjbpnbjdaaaaGreatDoor
open Go Go.RowKit Tryz
theorem U5 (d:UInt8):(uZ d=true∧((97≤d.toNat∧d.toNat≤122)∨(65≤d.toNat∧d.toNat≤90)∨(48≤d.toNat∧d.toNat≤57)∨d.toNat=95∨d.toNat=58∨d.toNat=45)) ∨
  (uZ d=false∧(d.toNat<45∨(46≤d.toNat∧d.toNat≤47)∨(59≤d.toNat∧d.toNat≤64)∨(91≤d.toNat∧d.toNat≤94)∨d.toNat=96∨123≤d.toNat)):=by
 have h:uZ d=true↔((97≤d.toNat∧d.toNat≤122)∨(65≤d.toNat∧d.toNat≤90)∨(48≤d.toNat∧d.toNat≤57)∨d.toNat=95∨d.toNat=58∨d.toNat=45):=by
  simp only [uZ,Bool.or_eq_true,Bool.and_eq_true,decide_eq_true_eq,beq_iff_eq,UInt8.le_iff_toNat_le,←UInt8.toNat_inj]
  simp only [show (97:UInt8).toNat=97 from rfl,show (122:UInt8).toNat=122 from rfl,show (65:UInt8).toNat=65 from rfl,show (90:UInt8).toNat=90 from rfl,show (48:UInt8).toNat=48 from rfl,show (57:UInt8).toNat=57 from rfl,show (95:UInt8).toNat=95 from rfl,show (58:UInt8).toNat=58 from rfl,show (45:UInt8).toNat=45 from rfl]
  omega
 cases hu:uZ d
 ·right
  refine ⟨rfl,?_⟩
  have:¬ _:=fun hh=>by rw [h.2 hh] at hu;cases hu
  omega
 ·left
  exact ⟨rfl,h.1 hu⟩
def a0V (x:Cx) (c:DC) (w0:World) (v0:DV) (l0:Bs) (k:Nat) (a:Act) (w:World):Prop:=
 ∃ f v rest pre,a=fr 91 f [(0,bS x)]∧bX x c w v rest none pre∧cK x w0 v0 w v∧cO v∧k=rest.length∧pre.length+rest.length=l0.length∧gT l0=(pre++(gT rest).1,(gT rest).2)
theorem U6 (x:Cx) (hx:x.All) (c:DC) (dR:iU x c) (jL:wL x c) (w:World) (v:DV) (rest:Bs) (e:Option EK) (buf:Bs) (h:bX x c w v rest e buf) (o4:cO v) :
  Calls prog 71 #[bS x] w fun en w'=>∃ v',cK x w v w' v'∧uD x c (some 0) false w' v' en (dX x.o rest):=by
 have HX:=Lh hx
 have HD:=Lh dR
 have xP:=Lh jL
 have nC:=Lh o4
 cases rest with
 | nil=>
  have hg:=Lh (bJ x hx.toOk c dR w v e buf h)
  clear h hx dR jL o4
  refine eJ 91 func71 [_] fun f=>?_
  simp only [aE]
  (refine vg ?_;(repeat with_reducible intro K hK))
  refine hg.out.mono ?_
  rintro e1 w1 ⟨rfl,v1,h1,bP,eA⟩
  have iS:=Lh (show cK x w v w1 v1 from cK.ofS0 eA (fun k=>by rw [bP]))
  have H1:=Lh h1
  clear h1 bP eA hg
  ((repeat revert K);refine vS ?_;intro K hK)
  (refine cW ?_)
  exact ⟨v1,iS.out,rfl,H1.out⟩
 | cons b r=>
  have hg:=Lh (bH x hx.toOk c dR w v b r e buf h)
  have kC:=Lh h.suf
  clear h hx dR jL o4
  refine eJ 91 func71 [_] fun f=>?_
  simp only [aE]
  (refine vg ?_;(repeat with_reducible intro K hK))
  refine hg.out.mono ?_
  rintro e1 w1 ⟨rfl,v1,h1,iL,bP,eA,iR⟩
  have iS:=Lh (show cK x w v w1 v1 from cK.ofS0 eA (fun k=>by rw [bP]))
  have a0W:=Lh (nC.out.of_eq bP)
  have H1:=Lh h1
  have E0:=Lh iL
  have u7:=h1.dec.cell
  have KM:=h1.dec.frozen
  clear h1 iL bP eA iR hg
  by_cases hq:b=34∨b=39
  ·have hq':(((b.toNat:Int)==34)=true)∨(((b.toNat:Int)==34)=false∧((b.toNat:Int)==39)=true):=by
    rcases hq with rfl|rfl
    ·exact Or.inl rfl
    ·exact Or.inr ⟨rfl,rfl⟩
   have OM:IntKind.i64.wrap (b.toNat:Int)=(b.toNat:Int):=by have:=b.toNat_lt;rw [IntKind.wrap_i64];omega
   have MD:=Lh (QB x HX.out c HD.out xP.out (some b) false w1 v1 r none buf H1.out (fun _=>a0W.out) (fun hh=>by cases hh))
   have HQ:=Lh hq
   clear hq
   rcases hq' with q1|⟨q1,q2⟩
   all_goals
    ((repeat revert K);refine vS ?_;(repeat with_reducible intro K hK))
    refine MD.out.mono ?_
    rintro e2 w2 ⟨v2,hS,hP⟩
    have gH:=Lh (iS.out.trans hS)
    have F7:=Lh hP
    clear hS hP MD
    have Fg:dX x.o (b::r)=aX x.o (some b) false r 0 0 []:=by
     simp only [dX];rw [if_pos HQ.out]
    have Xy:=Lh Fg
    clear Fg
    cases hT:aX x.o (some b) false r 0 0 [] with
    | error k=>
     have hP:=F7.out
     rw [hT] at hP
     obtain ⟨rfl,hE⟩:=hP
     have HE:=Lh hE
     clear hE
     ((repeat revert K);refine vS ?_;intro K hK)
     (refine cW ?_)
     exact ⟨v2,gH.out,by rw [Xy.out,hT];exact ⟨rfl,HE.out⟩⟩
    | ok p=>
     obtain ⟨d,r'⟩:=p
     have hP:=F7.out
     rw [hT] at hP
     obtain ⟨g,cap,e',b',rfl,hR,hv,ht,hl,_⟩:=hP
     have HR:=Lh hR
     have HV:=Lh hv
     have GP:=Lh ht
     have Xz:=Lh hT
     clear hR hv ht hT
     ((repeat revert K);refine vS ?_;intro K hK)
     (refine cW ?_)
     exact ⟨v2,gH.out,by rw [Xy.out,Xz.out];exact ⟨g,cap,e',b',rfl,HR.out,HV.out,GP.out,hl,fun hh=>(by cases hh),fun hh=>(by cases hh)⟩⟩
  ·have q1:((b.toNat:Int)==34)=false:=eU (c:=34) (fun hh=>hq (Or.inl hh)) rfl
   have q2:((b.toNat:Int)==39)=false:=eU (c:=39) (fun hh=>hq (Or.inr hh)) rfl
   have Fg:dX x.o (b::r)=if c.strict then .error .syn else match (gT (b::r)).2 with|[]=>.error (bW x.o.fails)|_=>.ok (gT (b::r)):=by
    simp only [dX];rw [if_neg hq,HD.out.strict]
    rfl
   have Xy:=Lh Fg
   clear Fg hq
   cases dA:c.strict with
   | true=>
    have qS:=Lh (fun msg=>qR HX.out.toOk H1.out msg)
    ((repeat revert K);refine vS ?_;(repeat with_reducible intro K hK))
    refine (qS.out _).mono ?_
    rintro e2 w2 ⟨rfl,hS⟩
    have tE:=hS.dec.cell
    have sZ:=hS.dec.frozen
    have HS:=Lh hS
    clear hS
    ((repeat revert K);refine vS ?_;intro K hK)
    (refine cW ?_)
    exact ⟨_,iS.out.trans HS.out.stp,by rw [Xy.out,dA,if_pos rfl];exact ⟨rfl,HS.out.err⟩⟩
   | false=>
    have hug:=Lh (gZ x HX.out.toOk c w1 v1 b r buf H1.out E0.out kC.out)
    ((repeat revert K);refine vS ?_;(repeat with_reducible intro K hK))
    refine hug.out.mono ?_
    rintro e2 w2 ⟨rfl,v2,h2,gK,dJ,iA,KN⟩
    have gH:=Lh (iS.out.trans (show cK x w1 v1 w2 v2 from cK.ofS0 iA (fun k=>by rw [dJ])))
    have Y2:=Lh (a0W.out.of_eq dJ)
    have B1:=Lh (rV x HX.out.toOk c w2 v2 (b::r) none buf h2)
    clear h2 gK dJ iA KN hug u7 KM
    ((repeat revert K);refine vS ?_;(repeat with_reducible intro K hK))
    refine B1.out.mono ?_
    rintro e3 w3 ⟨rfl,v3,h3,O8,l9,cD,Nb⟩
    have wH:=Lh (gH.out.trans (show cK x w2 v2 w3 v3 from cK.ofS0 cD l9))
    have a3o:=Lh (Y2.out.of_iff l9)
    have H3:=Lh h3
    clear h3 O8 l9 cD Nb B1
    ((repeat revert K);refine vS ?_;intro K hK)
    (refine cJ [0] fun f=>?_)
    have gC:=Lh dA
    clear q1 q2 dA
    refine wp_loop_ghost_k (a0V x c w v (b::r)) (b::r).length ⟨f,v3,b::r,[],rfl,H3.out,wH.out,a3o.out,rfl,by simp,rfl⟩ ?_
    rintro k _ w4 ⟨f,v4,rest,pre,rfl,h4,YH,UH,hk,bF,fY⟩ J K2 hJ cY
    have HJ:=Lh hJ
    have dN:=Lh cY
    have nM:=Lh YH
    have Rn:=Lh UH
    have Ny:=Lh hk
    have oK:=Lh fY
    have cL:=Lh bF
    have o5:=Lh (show (b::r).length≤1000000000 from Nat.le_trans (kC.out.length_le) HX.out.len)
    clear hJ cY YH UH hk fY bF
    cases rest with
    | nil=>
     have hg:=Lh (bJ x HX.out.toOk c HD.out w4 v4 none pre h4)
     clear h4
     (revert K;refine vg ?_;(repeat with_reducible intro K hK))
     refine hg.out.mono ?_
     rintro e5 w5 ⟨rfl,v5,h5,jM,fL⟩
     have rG:=Lh (nM.out.trans (show cK x w4 v4 w5 v5 from cK.ofS0 fL (fun k=>by rw [jM])))
     have H5:=Lh h5
     clear h5 jM fL hg
     ((repeat revert K);refine vS ?_;(repeat with_reducible intro K hK))
     (refine cW ?_)
     refine ⟨v5,rG.out,?_⟩
     rw [Xy.out,gC.out,oK.out]
     exact ⟨rfl,H5.out⟩
    | cons d t=>
     have lI:=Lh h4.suf
     have hg:=Lh (bH x HX.out.toOk c HD.out w4 v4 d t none pre h4)
     clear h4
     (revert K;refine vg ?_;(repeat with_reducible intro K hK))
     refine hg.out.mono ?_
     rintro e5 w5 ⟨rfl,v5,h5,PK,jM,fL,OL⟩
     have rG:=Lh (nM.out.trans (show cK x w4 v4 w5 v5 from cK.ofS0 fL (fun k=>by rw [jM])))
     have a3p:=Lh (Rn.out.of_eq jM)
     have H5:=Lh h5
     have HN5:=Lh PK
     clear h5 PK jM fL OL hg
     rcases U5 d with ⟨hu,hd⟩|⟨hu,hd⟩
     ·have kY:pre.length≤50000000000000:=by have:=cL.out;have:=o5.out;simp at *;omega
      have mZ:=Lh (gF x HX.out.toOk c w5 v5 t none pre H5.out d kY)
      have HU:=Lh hu
      clear hu kY
      rcases hd with hd|hd|hd|hd|hd|hd
      all_goals
       first|have:((97:Int)≤(d.toNat:Int)):=by omega|have:¬ (((97:Int)≤(d.toNat:Int))):=by omega
       first|have:((d.toNat:Int)≤122):=by omega|have:¬ (((d.toNat:Int)≤122)):=by omega
       first|have:((65:Int)≤(d.toNat:Int)):=by omega|have:¬ (((65:Int)≤(d.toNat:Int))):=by omega
       first|have:((d.toNat:Int)≤90):=by omega|have:¬ (((d.toNat:Int)≤90)):=by omega
       first|have:((48:Int)≤(d.toNat:Int)):=by omega|have:¬ (((48:Int)≤(d.toNat:Int))):=by omega
       first|have:((d.toNat:Int)≤57):=by omega|have:¬ (((d.toNat:Int)≤57)):=by omega
       first|have:((((d.toNat:Int)))==(95))=true:=by (simp;omega)|have:((((d.toNat:Int)))==(95))=false:=by (simp;omega)
       first|have:((((d.toNat:Int)))==(58))=true:=by (simp;omega)|have:((((d.toNat:Int)))==(58))=false:=by (simp;omega)
       first|have:((((d.toNat:Int)))==(45))=true:=by (simp;omega)|have:((((d.toNat:Int)))==(45))=false:=by (simp;omega)
       clear hd
       ((repeat revert K);refine vS ?_;(repeat with_reducible intro K hK))
       refine mZ.out.mono ?_
       rintro e6 w6 ⟨rfl,v6,⟨h6,R2,yX⟩,Sk⟩
       clear mZ
       ((repeat revert K);refine vS ?_;intro K hK)
       (refine Kk [0] fun f=>?_)
       refine dN.out _ _ ⟨t.length,by rw [Ny.out];simp,HJ.out _ _ _ ⟨f,v6,t,pre++[d],rfl,h6,rG.out.trans yX,h6.nonnil (by simp),rfl,?_,?_⟩⟩
       ·have:=cL.out;simp at this ⊢;omega
       ·rw [oK.out];rw [gT,if_pos HU.out];simp
     ·have hug:=Lh (gZ x HX.out.toOk c w5 v5 d t pre H5.out HN5.out lI.out)
      have HU:=Lh hu
      clear hu
      rcases hd with hd|hd|hd|hd|hd|hd
      all_goals
       first|have:((97:Int)≤(d.toNat:Int)):=by omega|have:¬ (((97:Int)≤(d.toNat:Int))):=by omega
       first|have:((d.toNat:Int)≤122):=by omega|have:¬ (((d.toNat:Int)≤122)):=by omega
       first|have:((65:Int)≤(d.toNat:Int)):=by omega|have:¬ (((65:Int)≤(d.toNat:Int))):=by omega
       first|have:((d.toNat:Int)≤90):=by omega|have:¬ (((d.toNat:Int)≤90)):=by omega
       first|have:((48:Int)≤(d.toNat:Int)):=by omega|have:¬ (((48:Int)≤(d.toNat:Int))):=by omega
       first|have:((d.toNat:Int)≤57):=by omega|have:¬ (((d.toNat:Int)≤57)):=by omega
       first|have:((((d.toNat:Int)))==(95))=true:=by (simp;omega)|have:((((d.toNat:Int)))==(95))=false:=by (simp;omega)
       first|have:((((d.toNat:Int)))==(58))=true:=by (simp;omega)|have:((((d.toNat:Int)))==(58))=false:=by (simp;omega)
       first|have:((((d.toNat:Int)))==(45))=true:=by (simp;omega)|have:((((d.toNat:Int)))==(45))=false:=by (simp;omega)
       clear hd
       ((repeat revert K);refine vS ?_;(repeat with_reducible intro K hK))
       refine hug.out.mono ?_
       rintro e6 w6 ⟨rfl,v6,h6,R2,xK,eQ,hz6⟩
       have nD:=Lh (rG.out.trans (show cK x w5 v5 w6 v6 from cK.ofS0 eQ (fun k=>by rw [xK])))
       have Il:=Lh (a3p.out.of_eq xK)
       have lY:=Lh (nS x c w6 v6 (d::t) none pre h6)
       have H6:=Lh h6
       clear h6 R2 xK eQ hz6 hug
       ((repeat revert K);refine vS ?_;(repeat with_reducible intro K hK))
       refine lY.out.mono ?_
       rintro e7 w7 ⟨rfl,k7,rfl⟩
       clear lY
       ((repeat revert K);refine vS ?_)
       (refine cW ?_)
       refine ⟨v6,nD.out.trans (cK.drewN _),?_⟩
       have h2:gT (b::r)=(pre,d::t):=by
        rw [oK.out,gT,if_neg (by rw [HU.out];simp)];simp
       rw [Xy.out,gC.out,h2]
       rcases H6.out.bf with ⟨h1,_⟩|⟨g,cap,arr,hv,_⟩
       ·exact absurd h1 Il.out.ne
       ·exact ⟨g,cap,none,pre,by rw [hv],H6.out.drewN HX.out.toOk _,hv,by rw [List.take_length],Nat.le_refl _,fun hh=>(by cases hh),fun hh=>(by cases hh)⟩
abbrev Ya (v:Value):Value:=.iface 119 v
abbrev Nz (v:Value):Value:=.iface 122 v
abbrev Oa (tg:Bs) (v:Value):Value:=.iface 121 (.agg #[aB tg,v])
abbrev W2 (nm:Bs×Bs):Value:=.iface 106 (.agg #[aB nm.1,aB nm.2])
abbrev stV (nm:Bs×Bs) (ats:Value):Value:=.iface 97 (.agg #[aB nm.1,aB nm.2,ats])
def aN (ats:List eI):List Value:=ats.flatMap fun a=>[aB a.1,aB a.2.1,aB a.2.2]
theorem ME (ats:List eI):(aN ats).length=ats.length*3:=by
 induction ats with
 | nil=>rfl
 | cons a ats ih=>
  have:aN (a::ats)=[aB a.1,aB a.2.1,aB a.2.2]++aN ats:=rfl
  rw [this,List.length_append,ih];simp;omega
structure oP (w:World) (bv:Value) (s:Value) (d:Bs):Prop where
 ex:∃ g cap n,s=.slice (some ⟨g,0,none⟩) d.length cap∧bv=.slice (some ⟨g,0,none⟩) n cap∧bG w g 0 d∧d.length≤cap∧cap≤9223372036854775807
def jN (w:World) (bv:Value) (base:Nat) (tv:Value):aP→Prop
 | .text d=>∃ s,tv=Xx s∧oP w bv s d
 | .comment d=>∃ s,tv=Ya s∧oP w bv s d
 | .dir d=>∃ s,tv=Nz s∧oP w bv s d
 | .proc tg d=>∃ s,tv=Oa tg s∧oP w bv s d
 | .fin nm=>tv=W2 nm
 | .start nm ats=>∃ s,tv=stV nm s∧s≠.slice none 0 0∧w.ownsRow base 99 3 s ats.length (aN ats)
def DC.closing (c:DC) (nm:Bs×Bs) (em:Bool):DC:=if em then { c with needClose:=true,tcs:=⟨nm.1.toArray⟩,tcl:=⟨nm.2.toArray⟩ } else c
def lP (x:Cx) (c:DC) (w:World) (v:DV) (R:Except EK (aP×Bs)) (t e:Value) (w':World):Prop:=
 ∃ v',cK x w v w' v'∧match R with
  | .error k=>t=.nilIface∧e=v'.err∧jP x c w' v' k
  | .ok (tk,r)=>e=.nilIface∧∃ e' b,bX x c w' v' r e' b∧jN w' v'.bufv w.heap.size t tk∧(e'=none∨((∃ d,tk=.text d)∧r=[]∧e'=some (qK x.o.fails)))∧v'.nb=-1
noncomputable def dM (n:Nat):Code:=((Tryz.f29.body).bind (Code.partAt n)).getD .skip
theorem cK.below {x:Cx} {w w1 w2:World} {v v1:DV} (h:cK x w v w1 v1) (hb:Below w1.heap.size w1 w2):cK x w v w2 v1:=h.s0 (aH hb _) rfl
theorem cK.alloc {x:Cx} {w w1:World} {v v1:DV} (h:cK x w v w1 v1) (o:Obj):cK x w v (w1.alloc o) v1:=h.below ((Below.refl _ w1).alloc (Nat.le_refl _) _)
theorem jP.drewN {x:Cx} {c:DC} {w:World} {v:DV} {k:EK} (h:jP x c w v k) (n:Nat):jP x c (w.drewN n) v k:=⟨cA h.base _,h.dec,h.err⟩
theorem cK.drawn {x:Cx} {w w1:World} {v v1:DV} (h:cK x w v w1 v1) (n:Nat):cK x w v (w1.drewN n) v1:=h.trans (cK.drewN n)
theorem uF {b c:UInt8} {n:Int} (h:b≠c) (hc:(c.toNat:Int)=n):((b.toNat:Int) != n)=true:=by
 have:=eU h hc
 simpa using this
theorem g7 {x:Cx} (hx:x.Ok) {c:DC} {w:World} {v:DV} {rest:Bs} {e:Option EK} {buf:Bs} (h:bX x c w v rest e buf) (msg:ByteArray) :
  Calls prog 30 #[.pointer (some ⟨x.d,0,none⟩),.string msg] w fun en w'=>∃ a,en=.returned (BR a)∧Y0 x c w v w' a:=
 (qR hx h msg).mono fun _ _ ⟨h1,h2⟩=>⟨_,h1,h2⟩
theorem cK.notS1 {x:Cx} {w w':World} {v v':DV} {q:Nat} (h:cK x w v w' v') (hq:¬ x.S1 v q) (hl:q<w.heap.size):¬ x.S1 v' q:=by
 rintro (h1|h1)
 ·exact hq (Or.inl h1)
 ·rcases h.buf q h1 with h2|h2
  ·exact hq (Or.inr h2)
  ·omega
theorem bX.newS1 {x:Cx} {c:DC} {w:World} {v:DV} {rest:Bs} {e:Option EK} {buf:Bs} (h:bX x c w v rest e buf):¬ x.S1 v w.heap.size:=fun hk=>Nat.lt_irrefl _ (h.s1lt _ hk)
theorem sG {x:Cx} {c:DC} {w:World} {v:DV} {rest:Bs} {e:Option EK} {buf:Bs} (h:bX x c w v rest e buf) {q:Nat} {a b:Value} (hq:aJ w q #[a,b] 85) (hS:¬ x.S1 v q) (hB:x.B≤q) (nm:Bs×Bs) :
  bX x c ((w.setCell ⟨q,0,none⟩ (aB nm.1)).setCell ⟨q,1,none⟩ (aB nm.2)) v rest e buf∧aJ ((w.setCell ⟨q,0,none⟩ (aB nm.1)).setCell ⟨q,1,none⟩ (aB nm.2)) q #[aB nm.1,aB nm.2] 85 ∧
   aK (fun k=>k=q) w ((w.setCell ⟨q,0,none⟩ (aB nm.1)).setCell ⟨q,1,none⟩ (aB nm.2)):=by
 have hm:aK (fun k=>k=q) w ((w.setCell ⟨q,0,none⟩ (aB nm.1)).setCell ⟨q,1,none⟩ (aB nm.2)):=((aK.refl (fun k=>k=q) w).setCell (p:=⟨q,0,none⟩) (Or.inl rfl) _).setCell (p:=⟨q,1,none⟩) (Or.inl rfl) _
 exact ⟨h.mod hm (fun k hk he=>hS (he▸hk)) (fun k hk=>hk▸hB),(hq.set 0 (aB nm.1)).set 1 (aB nm.2),hm⟩
theorem uG {x:Cx} {c:DC} {w:World} {v:DV} {k:EK} (h:jP x c w v k) {q:Nat} {a b:Value} (hq:aJ w q #[a,b] 85) (hS:¬ x.S1 v q) (hB:x.B≤q) (nm:Bs×Bs) :
  jP x c ((w.setCell ⟨q,0,none⟩ (aB nm.1)).setCell ⟨q,1,none⟩ (aB nm.2)) v k∧aK (fun k=>k=q) w ((w.setCell ⟨q,0,none⟩ (aB nm.1)).setCell ⟨q,1,none⟩ (aB nm.2)):=by
 have hm:aK (fun k=>k=q) w ((w.setCell ⟨q,0,none⟩ (aB nm.1)).setCell ⟨q,1,none⟩ (aB nm.2)):=((aK.refl (fun k=>k=q) w).setCell (p:=⟨q,0,none⟩) (Or.inl rfl) _).setCell (p:=⟨q,1,none⟩) (Or.inl rfl) _
 exact ⟨⟨aK.below h.base h.base.size hm (fun k hk=>hk▸hB),aJ.mod h.dec hm (fun he=>hS (he▸Or.inl (Or.inl rfl))),h.err⟩,hm⟩
theorem FU (s:Bs):(dW s).1.length≤s.length∧(dW s).2.length≤s.length:=by
 unfold dW
 split
 ·simp
 ·rename_i b loc h
  have h1:loc.length≤s.length:=by
   have h2:=(List.dropWhile_suffix (fun x:UInt8=>x != 58) (l:=s)).length_le
   rw [h] at h2;simp at h2;omega
  have h3:=(List.takeWhile_prefix (fun x:UInt8=>x != 58) (l:=s)).length_le
  split
  ·simp
  ·exact ⟨h3,h1⟩
theorem Sl (x:Cx) (hx:x.All) (c:DC) (dR:iU x c) (w:World) (v:DV) (rest:Bs) (e:Option EK) (buf:Bs) (h:bX x c w v rest e buf) (Q:Exit→Act→World→Prop)
  (hQ:∀ f w' t e,lP x c w v (o7 x.o rest) t e w'→Q .ret (fr 731 f [(2,t),(3,e)]) w') (f:Nat→Value) :
  (dM 22).wp prog Q (fr 731 f [(0,bS x)]) w:=by
 have bP:Below w.heap.size w (w.alloc (.cells #[.string ⟨#[]⟩,.string ⟨#[]⟩] 85)):=(Below.refl _ w).alloc (Nat.le_refl _) _
 have sM:=Lh (C9 x hx.toFit c dR _ v rest e buf (h.below hx.toOk bP))
 have hq:=aJ.new w #[.string ⟨#[]⟩,.string ⟨#[]⟩] 85
 have HS0:=Lh ((cK.refl x w v).alloc (.cells #[.string ⟨#[]⟩,.string ⟨#[]⟩] 85))
 have HQ0:=Lh hq
 have rJ:=Lh h.newS1
 have HX:=Lh hx
 have HD:=Lh dR
 have HQ:=Lh hQ
 have tW:=Lh (show x.B≤w.heap.size from h.base.size)
 have ON:=Lh (show rest.length≤1000000000 from Nat.le_trans (h.suf.length_le) hx.len)
 clear h bP hq hx dR hQ
 unfold dM
 conv=>arg 2;whnf
 (refine vg ?_;(repeat with_reducible intro K hK))
 refine sM.out.mono ?_
 rintro e2 w2 ⟨v2,gS,mG⟩
 have bB:w.heap.size<(w.alloc (.cells #[.string ⟨#[]⟩,.string ⟨#[]⟩] 85)).heap.size:=by simp
 have gK:=gS.notS1 rJ.out bB
 have AQ:=HQ0.out.mod gS.mod rJ.out
 have gH:=Lh (HS0.out.trans gS)
 have R6:=Lh AQ
 have mH:=Lh gK
 have nU:=AQ.cell
 have s6:=AQ.frozen
 have SM:x.d≠w.heap.size:=fun e=>gK (Or.inl (Or.inl e.symm))
 have E5:w.heap.size≠x.d:=fun e=>SM e.symm
 clear gS AQ gK bB sM
 cases hn:cE x.o.fails rest with
 | error k=>
  rw [hn] at mG
  obtain ⟨nm,rfl,jL⟩:=mG
  have dB:=Lh (show o7 x.o rest=.error k by unfold o7;rw [hn])
  rcases jL with hE|⟨rfl,r,b,hR⟩
  ·obtain ⟨B7,hm⟩:=uG hE R6.out mH.out tW.out nm
   have wH:=Lh (gH.out.new (Nat.le_refl _) hm)
   obtain ⟨t1,u1,oQ⟩:=hE.err.iface
   have FO:=Lh B7
   have hc:=B7.dec.cell
   have hf:=B7.dec.frozen
   have HU:=Lh oQ
   clear hE B7 hm hn
   ((repeat revert K);refine vS ?_;(repeat with_reducible intro K hK))
   ((refine cJ [0] fun f=>?_);go_quiet (fail);((repeat revert K);refine vg ?_;intro K hK);refine Qk [2,3] fun f=>?_)
   exact HQ.out f _ _ _ ⟨v2,wH.out.drawn _,by rw [dB.out];exact ⟨rfl,HU.out.symm,FO.out.drewN _⟩⟩
  ·obtain ⟨s8,Im,hm⟩:=sG hR R6.out mH.out tW.out nm
   have wH:=Lh (gH.out.new (Nat.le_refl _) hm)
   have he:v2.err=.nilIface:=s8.err
   have hc:=s8.dec.cell
   have hf:=s8.dec.frozen
   have qS:=Lh (fun msg=>g7 HX.out.toOk s8 msg)
   clear hR s8 Im hm hn
   ((repeat revert K);refine vS ?_;(repeat with_reducible intro K hK))
   refine (qS.out _).mono ?_
   rintro e3 w3 ⟨a9,rfl,hS⟩
   have tE:=hS.dec.cell
   have sZ:=hS.dec.frozen
   have HS:=Lh hS
   clear hS hc hf he nU s6
   ((repeat revert K);refine vS ?_;(repeat with_reducible intro K hK))
   ((refine cJ [0] fun f=>?_);go_quiet (fail);((repeat revert K);refine vg ?_;intro K hK);refine Qk [2,3] fun f=>?_)
   exact HQ.out f _ _ _ ⟨_,(wH.out.trans HS.out.stp).drawn _,by rw [dB.out];exact ⟨rfl,rfl,HS.out.err.drewN _⟩⟩
 | ok p=>
  obtain ⟨nm,r⟩:=p
  rw [hn] at mG
  obtain ⟨rfl,b,_,hR⟩:=mG
  obtain ⟨s8,Im,hm⟩:=sG hR R6.out mH.out tW.out nm
  have wH:=Lh (gH.out.new (Nat.le_refl _) hm)
  have fB:=Lh s8
  have nK:=Lh Im
  have dB:=Lh (show o7 x.o rest=(match aM r with|[]=>.error (bW x.o.fails)|b::r2=>if b=62 then .ok (.fin nm,r2) else .error .syn) by unfold o7;rw [hn];rfl)
  have LJ:=Lh (show nm.2.length≤1000000000 by
   obtain ⟨s,h1,_,rfl⟩:=rO hn
   have h2:=(FU s).2
   have h3:=GC h1
   have:=ON.out
   omega)
  have fY:=Lh (xY x HX.out.toOk c HD.out _ v2 r none b fB.out)
  clear hR s8 Im hm hn
  ((repeat revert K);refine vS ?_;(repeat with_reducible intro K hK))
  refine fY.out.mono ?_
  rintro e3 w3 ⟨rfl,v3,e3',hP⟩
  have Gd:=nK.out.mod hP.mod (fun hk=>mH.out (Or.inl hk))
  have nM:=Lh (wH.out.s0 hP.mod hP.bufv)
  have DP:=Lh hP.rd
  have HQ3:=Lh Gd
  have Yb:=Lh (show ¬ x.S1 v3 w.heap.size from by
   rintro (h1|h1)
   ·exact mH.out (Or.inl h1)
   ·rw [hP.bufv] at h1;exact mH.out (Or.inr h1))
  clear hP fY Gd
  cases hw:aM r with
  | nil=>
   have iC:=Lh (show o7 x.o rest=.error (bW x.o.fails) by rw [dB.out,hw])
   have fD:=Lh (bJ x HX.out.toOk c HD.out w3 v3 _ b (by have:=DP.out;rw [hw] at this;exact this))
   clear hw
   ((repeat revert K);refine vS ?_;(repeat with_reducible intro K hK))
   refine fD.out.mono ?_
   rintro e4 w4 ⟨rfl,v4,hE,pC,l5⟩
   have rG:=Lh (nM.out.s0 l5 pC)
   obtain ⟨t1,u1,oQ⟩:=hE.err.iface
   have HE:=Lh hE
   have hc:=hE.dec.cell
   have hf:=hE.dec.frozen
   have HU:=Lh oQ
   clear hE l5 pC fD nU s6
   ((repeat revert K);refine vS ?_;(repeat with_reducible intro K hK))
   ((refine cJ [0] fun f=>?_);go_quiet (fail);((repeat revert K);refine vg ?_;intro K hK);refine Qk [2,3] fun f=>?_)
   exact HQ.out f _ _ _ ⟨v4,rG.out.drawn _,by rw [iC.out];exact ⟨rfl,HU.out.symm,HE.out.drewN _⟩⟩
  | cons b1 r2=>
   have fD:=Lh (bH x HX.out.toOk c HD.out w3 v3 b1 r2 _ b (by have:=DP.out;rw [hw] at this;exact this))
   have iC:=Lh (show o7 x.o rest=if b1=62 then .ok (.fin nm,r2) else .error .syn by rw [dB.out,hw])
   clear hw
   ((repeat revert K);refine vS ?_;(repeat with_reducible intro K hK))
   refine fD.out.mono ?_
   rintro e4 w4 ⟨rfl,v4,Ob,UH,pC,l5,Sm⟩
   have rG:=Lh (nM.out.s0 l5 pC)
   have Ge:=HQ3.out.mod l5 (fun hk=>Yb.out (Or.inl hk))
   have nU:=Ge.cell
   have s6:=Ge.frozen
   have SN:=Lh Ob
   have Rn:=Lh UH
   clear Ob UH l5 pC Sm fD Ge
   by_cases hb:b1=62
   ·subst hb
    ((repeat revert K);refine vS ?_)
    refine Qk [2,3] fun f=>?_
    exact HQ.out f _ _ _ ⟨v4,rG.out,by rw [iC.out,if_pos rfl];exact ⟨rfl,none,b,SN.out,rfl,Or.inl rfl,Rn.out⟩⟩
   ·have vG:=eU (n:=62) hb rfl
    have QF:=uF (n:=62) hb rfl
    have a0X:=Lh (show o7 x.o rest=.error .syn by rw [iC.out,if_neg hb])
    have qS:=Lh (fun msg=>g7 HX.out.toOk SN.out msg)
    have A5:¬ 9223372036854775807<nm.2.length+6:=by have:=LJ.out;omega
    have y8:¬ 9223372036854775807<29+nm.2.length:=by have:=LJ.out;omega
    have hl3:¬ 9223372036854775807<29+nm.2.length+6:=by have:=LJ.out;omega
    have hl4:¬ 9223372036854775807<29+(nm.2.length+6):=by have:=LJ.out;omega
    clear hb
    ((repeat revert K);refine vS ?_;(repeat with_reducible intro K hK))
    refine (qS.out _).mono ?_
    rintro e5 w5 ⟨a9,rfl,hS⟩
    have tE:=hS.dec.cell
    have sZ:=hS.dec.frozen
    have HS:=Lh hS
    clear hS nU s6
    ((repeat revert K);refine vS ?_;(repeat with_reducible intro K hK))
    ((refine cJ [0] fun f=>?_);go_quiet (fail);((repeat revert K);refine vg ?_;intro K hK);refine Qk [2,3] fun f=>?_)
    exact HQ.out f _ _ _ ⟨_,(rG.out.trans HS.out.stp).drawn _,by rw [a0X.out];exact ⟨rfl,rfl,HS.out.err.drewN _⟩⟩
def DQ (o:cU):Bs→Except EK (aP×Bs)
 | []=>.error (bW o.fails)
 | c::r2=>if c=45 then (match bY o.fails r2 0 0 [] with
  | .error e=>.error e
  | .ok (d,r3)=>.ok (.comment d,r3)) else .error .syn
theorem bX.chop {x:Cx} {c:DC} {w:World} {v:DV} {r:Bs} {e:Option EK} {b:Bs} (h:bX x c w v r e b) (hb:b≠[]) (n:Nat) :
  ∃ g cap,v.bufv=.slice (some ⟨g,0,none⟩) b.length cap∧b.length≤cap∧cap≤9223372036854775807∧∀ w',Below w.heap.size w w'→oP w' v.bufv (.slice (some ⟨g,0,none⟩) (b.take (b.length-n)).length cap) (b.take (b.length-n)):=by
 obtain ⟨g,cap,hv,lY,hl,E1,_,_,_⟩:=h.bf.bytes hb
 refine ⟨g,cap,hv,hl,E1,fun w' hw=>⟨g,cap,b.length,rfl,hv,?_,by rw [List.length_take];omega,E1⟩⟩
 intro j hj
 rw [List.length_take] at hj
 rw [(lY.below hw) j (by omega)]
 simp only [List.getD_eq_getElem?_getD,List.getElem?_take]
 rw [if_pos (by omega)]
def a0Y (x:Cx) (c:DC) (w0:World) (v0:DV) (l0:Bs) (k:Nat) (a:Act) (w:World):Prop:=
 ∃ f v rest b0 b1 buf e,a=fr 731 f [(0,bS x),(16,.int .u8 (UInt8.toNat b0)),(17,.int .u8 (UInt8.toNat b1))]∧bX x c w v rest e buf∧cK x w0 v0 w v∧k=rest.length ∧
  bY x.o.fails l0 0 0 []=bY x.o.fails rest b0 b1 buf∧(b0=45→2≤buf.length)∧(b1=45→1≤buf.length)∧buf.length+rest.length=l0.length
theorem Sn (x:Cx) (hx:x.All) (c:DC) (dR:iU x c) (w:World) (v:DV) (rest:Bs) (e:Option EK) (buf:Bs) (h:bX x c w v rest e buf) (Q:Exit→Act→World→Prop)
  (hQ:∀ f w' t e,lP x c w v (DQ x.o rest) t e w'→Q .ret (fr 731 f [(2,t),(3,e)]) w') (f:Nat→Value) :
  (dM 79).wp prog Q (fr 731 f [(0,bS x)]) w:=by
 have HX:=Lh hx
 have HD:=Lh dR
 have HQ:=Lh hQ
 have ON:=Lh (show rest.length≤1000000000 from Nat.le_trans (h.suf.length_le) hx.len)
 cases rest with
 | nil=>
  have fD:=Lh (bJ x hx.toOk c dR w v e buf h)
  clear h hx dR hQ
  unfold dM
  conv=>arg 2;whnf
  (refine vg ?_;(repeat with_reducible intro K hK))
  refine fD.out.mono ?_
  rintro e4 w4 ⟨rfl,v4,hE,pC,l5⟩
  have rG:=Lh ((cK.refl x w v).s0 l5 pC)
  obtain ⟨t1,u1,oQ⟩:=hE.err.iface
  have HE:=Lh hE
  have hc:=hE.dec.cell
  have hf:=hE.dec.frozen
  have HU:=Lh oQ
  clear hE l5 pC fD
  ((repeat revert K);refine vS ?_;(repeat with_reducible intro K hK))
  ((refine cJ [0] fun f=>?_);go_quiet (fail);((repeat revert K);refine vg ?_;intro K hK);refine Qk [2,3] fun f=>?_)
  exact HQ.out f _ _ _ ⟨v4,rG.out.drawn _,⟨rfl,HU.out.symm,HE.out.drewN _⟩⟩
 | cons b1 r2=>
  have fD:=Lh (bH x hx.toOk c dR w v b1 r2 e buf h)
  clear h hx dR hQ
  unfold dM
  conv=>arg 2;whnf
  (refine vg ?_;(repeat with_reducible intro K hK))
  refine fD.out.mono ?_
  rintro e4 w4 ⟨rfl,v4,Ob,UH,pC,l5,Sm⟩
  have nM:=Lh ((cK.refl x w v).s0 l5 pC)
  have SN:=Lh Ob
  clear Ob UH l5 pC Sm fD
  by_cases hb:b1=45
  ·subst hb
   have dB:=Lh (show DQ x.o (45::r2)=(match bY x.o.fails r2 0 0 [] with|.error e=>.error e|.ok (d,r3)=>.ok (.comment d,r3)) from rfl)
   have B1:=Lh (rV x HX.out.toOk c w4 v4 r2 none buf SN.out)
   ((repeat revert K);refine vS ?_;(repeat with_reducible intro K hK))
   refine B1.out.mono ?_
   rintro e5 w5 ⟨rfl,v5,Oc,PK,jM,fL,OL⟩
   have rG:=Lh (nM.out.trans (cK.ofS0 fL jM))
   have Fh:=Lh Oc
   clear Oc PK jM fL OL B1
   ((repeat revert K);refine vS ?_;intro K hK)
   (refine cJ [0,16,17] fun f=>?_)
   refine wp_loop_ghost_k (a0Y x c w v r2) r2.length ⟨f,v5,r2,0,0,[],none,rfl,Fh.out,rG.out,rfl,rfl,fun h=>absurd h (by decide),fun h=>absurd h (by decide),by simp⟩ ?_
   rintro k _ w6 ⟨f,v6,rest,b0,b1,bf,e6,rfl,h6,yX,hk,ZT,MF,a0Z,bF⟩ J K2 hJ cY
   have HJ:=Lh hJ
   have dN:=Lh cY
   have nD:=Lh yX
   have HK:=Lh hk
   have Fc:=Lh ZT
   have LB:=Lh MF
   have fV:=Lh a0Z
   have cL:=Lh bF
   clear hJ cY yX hk ZT MF a0Z bF
   cases rest with
   | nil=>
    have fD:=Lh (bJ x HX.out.toOk c HD.out w6 v6 e6 bf h6)
    have iC:=Lh (show DQ x.o (45::r2)=.error (bW x.o.fails) by rw [dB.out,Fc.out];rfl)
    clear h6
    (revert K;refine vg ?_;(repeat with_reducible intro K hK))
    refine fD.out.mono ?_
    rintro e7 w7 ⟨rfl,v7,hE,sP,fU⟩
    have rH:=Lh (nD.out.s0 fU sP)
    obtain ⟨t1,u1,oQ⟩:=hE.err.iface
    have HE:=Lh hE
    have hc:=hE.dec.cell
    have hf:=hE.dec.frozen
    have HU:=Lh oQ
    clear hE fU sP fD
    ((repeat revert K);refine vS ?_;(repeat with_reducible intro K hK))
    ((refine cJ [0] fun f=>?_);go_quiet (fail);((repeat revert K);refine vg ?_;(repeat with_reducible intro K hK));refine Qk [2,3] fun f=>?_)
    exact HQ.out f _ _ _ ⟨v7,rH.out.drawn _,by rw [iC.out];exact ⟨rfl,HU.out.symm,HE.out.drewN _⟩⟩
   | cons b r=>
    have fD:=Lh (bH x HX.out.toOk c HD.out w6 v6 b r e6 bf h6)
    clear h6
    (revert K;refine vg ?_;(repeat with_reducible intro K hK))
    refine fD.out.mono ?_
    rintro e7 w7 ⟨rfl,v7,h7,SO,sP,fU,ZU⟩
    have rH:=Lh (nD.out.s0 fU sP)
    have DR:=Lh h7
    have HN7:=Lh SO
    have kY:bf.length≤50000000000000:=by have:=cL.out;have:=ON.out;simp at *;omega
    have mZ:=Lh (gF x HX.out.toOk c w7 v7 r none bf h7 b kY)
    clear h7 SO sP fU ZU fD kY
    ((repeat revert K);refine vS ?_;(repeat with_reducible intro K hK))
    refine mZ.out.mono ?_
    rintro e8 w8 ⟨rfl,v8,⟨h8,LP,SP⟩,_⟩
    have xL:=Lh (rH.out.trans SP)
    have E6:=Lh h8
    have Fa:=Lh (LP.trans HN7.out)
    clear h8 LP SP mZ
    have vO:(((b0.toNat:Int)==45)=false∧b0≠45)∨(((b0.toNat:Int)==45)=true∧b0=45∧((b1.toNat:Int)==45)=false∧b1≠45)∨(((b0.toNat:Int)==45)=true∧b0=45∧((b1.toNat:Int)==45)=true∧b1=45):=by
     by_cases h0:b0=45
     ·subst h0
      by_cases h1:b1=45
      ·subst h1;exact Or.inr (Or.inr ⟨rfl,rfl,rfl,rfl⟩)
      ·exact Or.inr (Or.inl ⟨rfl,rfl,eU h1 rfl,h1⟩)
     ·exact Or.inl ⟨eU h0 rfl,h0⟩
    rcases vO with ⟨c0,c0'⟩|⟨c0,c0',c1,c1'⟩|⟨c0,c0',c1,c1'⟩
    case inr.inr=>
     have dJ:2≤bf.length:=LB.out c0'
     by_cases hb:b=62
     ·subst hb
      have cB:bf++[62]≠[]:=by simp
      obtain ⟨g,cap,hv,yW,E1,MG⟩:=E6.out.chop cB 3
      have sB:=Lh (nS x c w8 v8 r none _ E6.out)
      have LM:((bf++[62]).take ((bf++[(62:UInt8)]).length-3)).length=bf.length-2:=by rw [List.length_take,List.length_append];simp only [List.length_cons,List.length_nil];omega
      have hde:(bf++[62]).take ((bf++[(62:UInt8)]).length-3)=bf.take (bf.length-2):=by
       have:(bf++[(62:UInt8)]).length-3=bf.length-2:=by rw [List.length_append];simp only [List.length_cons,List.length_nil];omega
       rw [this,List.take_append_of_le_length (by omega)]
      have QG:=Lh MG
      have iC:=Lh (show DQ x.o (45::r2)=.ok (.comment (bf.take (bf.length-2)),r) by
       rw [dB.out,Fc.out];unfold bY;rw [if_pos ⟨c0',c1'⟩,if_pos rfl])
      rw [hv] at sB
      have vC:(bf++[(62:UInt8)]).length=bf.length+1:=by simp
      rw [vC] at sB yW
      have HV:=Lh hv
      have HDE:=Lh hde
      have Nl:=Lh LM
      obtain ⟨L,hL⟩:∃ L,bf.length=L+2:=⟨bf.length-2,by omega⟩
      rw [hL] at sB yW
      have HL:=Lh hL
      have x9:IntKind.i64.wrap ((L:Int)+2+1-3)=(L:Int):=by rw [IntKind.wrap_i64];omega
      have l0:(0:Int)≤(L:Int):=by omega
      have l1:(L:Int)≤(cap:Int):=by omega
      have l2:L≤cap:=by omega
      clear cB hv MG hde LM vC hL dJ
      ((repeat revert K);refine vS ?_;(repeat with_reducible intro K hK))
      refine sB.out.mono ?_
      rintro e9 w9 ⟨rfl,kk,rfl⟩
      ((repeat revert K);refine vS ?_)
      refine Qk [2,3] fun f=>?_
      refine HQ.out f _ _ _ ⟨v8,xL.out.drawn _,?_⟩
      rw [iC.out]
      have hd:=QG.out (w8.drewN kk) ⟨rfl,rfl,rfl,Nat.le_refl _,fun _ _=>rfl⟩
      rw [Nl.out,HDE.out] at hd
      refine ⟨rfl,none,_,E6.out.drewN HX.out.toOk _,⟨_,rfl,?_⟩,Or.inl rfl,Fa.out⟩
      have:bf.length-2=L:=by have:=HL.out;omega
      rw [this] at hd ⊢
      exact hd
     ·have vG:=eU (n:=62) hb rfl
      have QF:=uF (n:=62) hb rfl
      have iC:=Lh (show DQ x.o (45::r2)=.error .syn by
       rw [dB.out,Fc.out];unfold bY;rw [if_pos ⟨c0',c1'⟩,if_neg hb])
      have qS:=Lh (fun msg=>g7 HX.out.toOk E6.out msg)
      clear hb dJ
      ((repeat revert K);refine vS ?_;(repeat with_reducible intro K hK))
      refine (qS.out _).mono ?_
      rintro e5 w9 ⟨a9,rfl,hS⟩
      have tE:=hS.dec.cell
      have sZ:=hS.dec.frozen
      have HS:=Lh hS
      clear hS
      ((repeat revert K);refine vS ?_;(repeat with_reducible intro K hK))
      ((refine cJ [0] fun f=>?_);go_quiet (fail);((repeat revert K);refine vg ?_;(repeat with_reducible intro K hK));refine Qk [2,3] fun f=>?_)
      exact HQ.out f _ _ _ ⟨_,(xL.out.trans HS.out.stp).drawn _,by rw [iC.out];exact ⟨rfl,rfl,HS.out.err.drewN _⟩⟩
    all_goals
     have HCN:=Lh (show ¬ (b0=45∧b1=45) by first|exact fun hh=>c0' hh.1|exact fun hh=>c1' hh.2)
     ((repeat revert K);refine vS ?_;intro K hK)
     (refine Kk [0,16,17] fun f=>?_)
     refine dN.out _ _ ⟨r.length,by rw [HK.out];simp,HJ.out _ _ _ ⟨f,v8,r,b1,b,bf++[b],none,rfl,E6.out,xL.out,rfl,?_,fun h=>?_,fun _=>by simp,?_⟩⟩
     ·rw [Fc.out];conv=>lhs;unfold bY
      rw [if_neg HCN.out]
     ·have:=fV.out h;simp;omega
     ·have:=cL.out;simp at this ⊢;omega
  ·have vG:=eU (n:=45) hb rfl
   have QF:=uF (n:=45) hb rfl
   have iC:=Lh (show DQ x.o (b1::r2)=.error .syn by simp only [DQ,if_neg hb])
   have qS:=Lh (fun msg=>g7 HX.out.toOk SN.out msg)
   clear hb
   ((repeat revert K);refine vS ?_;(repeat with_reducible intro K hK))
   refine (qS.out _).mono ?_
   rintro e5 w9 ⟨a9,rfl,hS⟩
   have tE:=hS.dec.cell
   have sZ:=hS.dec.frozen
   have HS:=Lh hS
   clear hS
   ((repeat revert K);refine vS ?_;(repeat with_reducible intro K hK))
   ((refine cJ [0] fun f=>?_);go_quiet (fail);((repeat revert K);refine vg ?_;intro K hK);refine Qk [2,3] fun f=>?_)
   exact HQ.out f _ _ _ ⟨_,(nM.out.trans HS.out.stp).drawn _,by rw [iC.out];exact ⟨rfl,rfl,HS.out.err.drewN _⟩⟩
theorem Yc (l:Bs) (k:Nat):∀ h,(⟨l.toArray⟩:ByteArray)[k]'h=l.getD k 0:=by
 intro h
 have h':k<l.length:=by simpa [ByteArray.size] using h
 show l.toArray[k]=_
 simp [h']
abbrev MH:Bs:=[67,68,65,84,65,91]
def vW (o:cU) (p:Bs) (r:Bs):Except EK (aP×Bs):=
 match fH o.fails p r with
 | .error e=>.error e
 | .ok r2=>match aX o none true r2 0 0 [] with
  | .error e=>.error e
  | .ok (d,r3)=>.ok (.text d,r3)
def a0a (x:Cx) (c:DC) (w0:World) (v0:DV) (l0:Bs) (k:Nat) (a:Act) (w:World):Prop:=
 ∃ f v rest i e buf,a=fr 731 f [(0,bS x),(19,.int .i64 (i:Nat))]∧bX x c w v rest e buf∧cK x w0 v0 w v∧k=6-i∧i≤6∧vW x.o MH l0=vW x.o (MH.drop i) rest
theorem So (x:Cx) (hx:x.All) (c:DC) (dR:iU x c) (jL:wL x c) (w:World) (v:DV) (rest:Bs) (e:Option EK) (buf:Bs) (h:bX x c w v rest e buf) (Q:Exit→Act→World→Prop)
  (hQ:∀ f w' t e,lP x c w v (vW x.o MH rest) t e w'→Q .ret (fr 731 f [(2,t),(3,e)]) w') (f:Nat→Value) :
  (dM 100).wp prog Q (fr 731 f [(0,bS x)]) w:=by
 have HX:=Lh hx
 have HD:=Lh dR
 have xP:=Lh jL
 have HQ:=Lh hQ
 have H:=Lh h
 clear hx dR jL hQ h
 unfold dM
 conv=>arg 2;whnf
 (refine vg ?_;intro K hK)
 (refine cJ [0,19] fun f=>?_)
 refine wp_loop_ghost_k (a0a x c w v rest) 6 ⟨f,v,rest,0,e,buf,rfl,H.out,cK.refl x w v,rfl,by omega,rfl⟩ ?_
 rintro k _ w6 ⟨f,v6,rest6,i,e6,bf,rfl,h6,yX,hk,hi,rE⟩ J K2 hJ cY
 have HJ:=Lh hJ
 have dN:=Lh cY
 have nD:=Lh yX
 have HK:=Lh hk
 have vH:=Lh rE
 have H6:=Lh h6
 clear hJ cY yX hk rE h6
 by_cases hi6:i=6
 ·subst hi6
  have MD:=Lh (QB x HX.out c HD.out xP.out none true w6 v6 rest6 e6 bf H6.out (fun h=>absurd rfl h) (fun _ h=>by cases h))
  have dB:=Lh (show vW x.o MH rest=(match aX x.o none true rest6 0 0 [] with|.error e=>.error e|.ok (d,r3)=>.ok (.text d,r3)) from vH.out.trans rfl)
  (revert K;refine vg ?_;(repeat with_reducible intro K hK))
  rw [show (-1:Int)=qI none from rfl]
  refine MD.out.mono ?_
  rintro e3 w3 ⟨v3,R1,hp⟩
  have wH:=Lh (nD.out.trans R1)
  clear R1 MD
  cases bR:aX x.o none true rest6 0 0 [] with
  | error k=>
   rw [bR] at hp
   obtain ⟨rfl,hE⟩:=hp
   have iC:=Lh (show vW x.o MH rest=.error k by rw [dB.out,bR])
   obtain ⟨t1,u1,oQ⟩:=hE.err.iface
   have hc:=hE.dec.cell
   have hf:=hE.dec.frozen
   have HE:=Lh hE
   have HU:=Lh oQ
   clear hE bR
   have q1:=fun w=>ZP w
   ((repeat revert K);refine vS ?_;(repeat with_reducible intro K hK))
   ((refine cJ [0] fun f=>?_);go_quiet (fail);((repeat revert K);refine vg ?_;intro K hK);refine Qk [2,3] fun f=>?_)
   exact HQ.out f _ _ _ ⟨v3,wH.out.drawn _,by rw [iC.out];exact ⟨rfl,HU.out.symm,HE.out.drewN _⟩⟩
  | ok dr=>
   obtain ⟨d,r'⟩:=dr
   rw [bR] at hp
   obtain ⟨g,cap,e',b',rfl,hR,rF,nR,FI,uB,lC⟩:=hp
   have rJ:=Lh (lC rfl)
   clear lC
   have iC:=Lh (show vW x.o MH rest=.ok (.text d,r') by rw [dB.out,bR])
   have MG:oP w3 v3.bufv (.slice (some ⟨g,0,none⟩) d.length cap) d:=by
    rcases hR.bf with ⟨h1,_⟩|⟨g',cap',arr,h1,hg,gE,hl,wT,_,_,oB⟩
    ·rw [h1] at rF;cases rF
    ·rw [h1] at rF
     simp only [Value.slice.injEq,oY,Addr.mk.injEq] at rF
     obtain ⟨⟨rfl,_⟩,_,rfl⟩:=rF
     refine ⟨g',cap',b'.length,rfl,by rw [h1],fun j hj=>?_,by omega,wT⟩
     rw [Nat.zero_add,hg.cell,oB j (by omega)]
     have:d.getD j 0=b'.getD j 0:=by
      rw [nR]
      simp only [List.getD_eq_getElem?_getD,List.getElem?_take]
      rw [if_pos hj]
     rw [this]
   have HR:=Lh hR
   have QG:=Lh MG
   have a3q:=Lh hR.fin
   clear hR rF nR uB bR MG
   have q1:=fun a l c w=>QD a l c w
   ((repeat revert K);refine vS ?_)
   refine Qk [2,3] fun f=>?_
   refine HQ.out f _ _ _ ⟨v3,wH.out,?_⟩
   rw [iC.out]
   refine ⟨rfl,e',b',HR.out,⟨_,rfl,QG.out⟩,?_,rJ.out⟩
   rcases a3q.out with h1|⟨h1,h2⟩
   ·exact Or.inl h1
   ·exact Or.inr ⟨⟨d,rfl⟩,h2,h1⟩
 ·have bB:(i:Int)<6:=by omega
  have a0b:i<6:=by omega
  have h0:(0:Int)≤(i:Int):=by omega
  obtain ⟨p,hp⟩:∃ p,p=MH.getD i 0:=⟨_,rfl⟩
  have tX:MH.drop i=p::MH.drop (i+1):=by
   rw [hp]
   have:i=0∨i=1∨i=2∨i=3∨i=4∨i=5:=by omega
   rcases this with rfl|rfl|rfl|rfl|rfl|rfl<;>rfl
  have Yd:∀ h,(⟨#[67,68,65,84,65,91]⟩:ByteArray)[i]'h=p:=by
   intro h;rw [hp];exact Yc MH i h
  have hi1:IntKind.i64.wrap ((i:Int)+1)=((i+1:Nat):Int):=by rw [IntKind.wrap_i64];omega
  have ZV:=Lh tX
  have HI:=Lh hi
  clear tX hp hi hi6
  cases rest6 with
  | nil=>
   have fD:=Lh (bJ x HX.out.toOk c HD.out w6 v6 e6 bf H6.out)
   have iC:=Lh (show vW x.o MH rest=.error (bW x.o.fails) by rw [vH.out,ZV.out];rfl)
   (revert K;refine vg ?_;(repeat with_reducible intro K hK))
   refine fD.out.mono ?_
   rintro e7 w7 ⟨rfl,v7,hE,sP,fU⟩
   have rH:=Lh (nD.out.s0 fU sP)
   obtain ⟨t1,u1,oQ⟩:=hE.err.iface
   have HE:=Lh hE
   have hc:=hE.dec.cell
   have hf:=hE.dec.frozen
   have HU:=Lh oQ
   clear hE fU sP fD
   ((repeat revert K);refine vS ?_;(repeat with_reducible intro K hK))
   ((refine cJ [0] fun f=>?_);go_quiet (fail);((repeat revert K);refine vg ?_;(repeat with_reducible intro K hK));refine Qk [2,3] fun f=>?_)
   exact HQ.out f _ _ _ ⟨v7,rH.out.drawn _,by rw [iC.out];exact ⟨rfl,HU.out.symm,HE.out.drewN _⟩⟩
  | cons b r=>
   have fD:=Lh (bH x HX.out.toOk c HD.out w6 v6 b r e6 bf H6.out)
   (revert K;refine vg ?_;(repeat with_reducible intro K hK))
   refine fD.out.mono ?_
   rintro e7 w7 ⟨rfl,v7,h7,SO,sP,fU,ZU⟩
   have rH:=Lh (nD.out.s0 fU sP)
   have DR:=Lh h7
   clear h7 SO sP fU ZU fD
   by_cases hb:b=p
   ·subst hb
    have a3r:=Lh (show vW x.o MH rest=vW x.o (MH.drop (i+1)) r by
     rw [vH.out,ZV.out];unfold vW;conv=>lhs;unfold fH
     rw [if_pos rfl])
    ((repeat revert K);refine vS ?_;intro K hK)
    (refine Kk [0,19] fun f=>?_)
    exact dN.out _ _ ⟨6-(i+1),by rw [HK.out];omega,HJ.out _ _ _ ⟨f,v7,r,i+1,none,bf,rfl,DR.out,rH.out,rfl,by omega,a3r.out⟩⟩
   ·have vG:((b.toNat:Int)==(p.toNat:Int))=false:=eU hb rfl
    have QF:((b.toNat:Int) != (p.toNat:Int))=true:=uF hb rfl
    have iC:=Lh (show vW x.o MH rest=.error .syn by
     rw [vH.out,ZV.out];unfold vW;unfold fH;rw [if_neg hb])
    have qS:=Lh (fun msg=>g7 HX.out.toOk DR.out msg)
    clear hb
    ((repeat revert K);refine vS ?_;(repeat with_reducible intro K hK))
    refine (qS.out _).mono ?_
    rintro e5 w9 ⟨a9,rfl,hS⟩
    have tE:=hS.dec.cell
    have sZ:=hS.dec.frozen
    have HS:=Lh hS
    clear hS
    ((repeat revert K);refine vS ?_;(repeat with_reducible intro K hK))
    ((refine cJ [0] fun f=>?_);go_quiet (fail);((repeat revert K);refine vg ?_;(repeat with_reducible intro K hK));refine Qk [2,3] fun f=>?_)
    exact HQ.out f _ _ _ ⟨_,(rH.out.trans HS.out.stp).drawn _,by rw [iC.out];exact ⟨rfl,rfl,HS.out.err.drewN _⟩⟩
def a0c (x:Cx) (c:DC) (w0:World) (v0:DV) (l0:Bs) (bf:Bs) (v21 v22:Value) (k:Nat) (a:Act) (w:World):Prop:=
 ∃ f v rest b0 b1 e,a=fr 731 f [(0,bS x),(21,v21),(22,v22),(26,.int .u8 (UInt8.toNat b0)),(27,.int .u8 (UInt8.toNat b1))]∧bX x c w v rest e bf∧cK x w0 v0 w v∧k=rest.length ∧
  cR x.o.fails l0 0 0=cR x.o.fails rest b0 b1
theorem Io (x:Cx) (hx:x.All) (c:DC) (dR:iU x c) (w:World) (v:DV) (rest:Bs) (bf:Bs) (hl:bf.length≤10000000000000) (h:bX x c w v rest none (bf++[60])) (v21 v22:Value) (Q:Exit→Act→World→Prop)
  (pB:∀ r4,cR x.o.fails rest 0 0=.ok r4→∀ f w' v',bX x c w' v' r4 none (bf++[32])→cK x w v w' v'→Q .normal (fr 731 f [(0,bS x),(21,v21),(22,v22)]) w')
  (gO:∀ k,cR x.o.fails rest 0 0=.error k→∀ f w' v',jP x c w' v' k→cK x w v w' v'→Q .ret (fr 731 f [(2,.nilIface),(3,v'.err)]) w') (f:Nat→Value) :
  (dM 143).wp prog Q (fr 731 f [(0,bS x),(21,v21),(22,v22)]) w:=by
 have HX:=Lh hx
 have HD:=Lh dR
 have DL:=Lh pB
 have zT:=Lh gO
 have H:=Lh h
 have HL:=Lh hl
 have bF:=Lh (fun k=>F4 x c (w.drewN k) v rest none _ (h.drewN hx.toOk k))
 have R7:=Lh (fun k=>C2 x hx.toOk c (w.drewN k) v rest none _ (h.drewN hx.toOk k) bf.length (by simp))
 have x9:IntKind.i64.wrap ((bf.length:Int)+1-1)=(bf.length:Int):=by rw [IntKind.wrap_i64];omega
 have MI:IntKind.i64.wrap (bf.length:Int)=(bf.length:Int):=by rw [IntKind.wrap_i64];omega
 have vC:(bf++[(60:UInt8)]).length=bf.length+1:=by simp
 rw [vC] at bF
 clear hx dR pB gO h hl vC
 unfold dM
 conv=>arg 2;whnf
 (refine vg ?_;intro K hK)
 (refine aI [0,0,0,0,0,0,2,0,2] [0,1,2,3,4,5,6,7,8] (by kernel_rfl) (by kernel_rfl) ?_;refine vP ?_;repeat with_reducible intro nq)
 (refine bK rfl rfl (fun nq K hK=>?_);go_simp)
 refine (bF.out _).mono ?_
 rintro e1 w1 ⟨rfl,k1,rfl⟩
 (go_simp;refine hK.out _ _ ?_;clear hK K)
 (refine vP ?_;repeat with_reducible intro nq)
 (refine bK rfl rfl (fun nq K hK=>?_);go_simp)
 refine (R7.out _).mono ?_
 rintro e2 w2 ⟨rfl,v2,h2,gK,dJ,iA,KN⟩
 have fB:=Lh (show bX x c w2 v2 rest none bf by rw [List.take_left'] at h2;exact h2;rfl)
 have gH:=Lh ((cK.drewN _).trans (cK.ofS0 iA dJ))
 clear h2 gK dJ iA KN bF R7 x9 MI
 (go_simp;refine hK.out _ _ ?_;clear hK K)
 (refine vP ?_;repeat with_reducible intro nq)
 (revert K;refine vg ?_;intro K hK)
 (refine cJ [0,21,22,26,27] fun f=>?_)
 have DP:=Lh (fB.out.drewN HX.out.toOk nq)
 have wH:=Lh (gH.out.drawn nq)
 generalize w2.drewN nq=w3 at DP wH ⊢
 clear fB gH
 refine wp_loop_ghost_k (a0c x c w v rest bf v21 v22) rest.length ⟨f,v2,rest,0,0,none,rfl,DP.out,wH.out,rfl,rfl⟩ ?_
 rintro k _ w6 ⟨f,v6,rest6,b0,b1,e6,rfl,h6,yX,hk,Gp⟩ J K2 hJ cY
 have HJ:=Lh hJ
 have dN:=Lh cY
 have nD:=Lh yX
 have HK:=Lh hk
 have Na:=Lh Gp
 clear hJ cY yX hk Gp
 cases rest6 with
 | nil=>
  have fD:=Lh (bJ x HX.out.toOk c HD.out w6 v6 e6 bf h6)
  clear h6
  (revert K;refine vg ?_;(repeat with_reducible intro K hK))
  refine fD.out.mono ?_
  rintro e7 w7 ⟨rfl,v7,hE,sP,fU⟩
  have rH:=Lh (nD.out.s0 fU sP)
  obtain ⟨t1,u1,oQ⟩:=hE.err.iface
  have HE:=Lh hE
  have hc:=hE.dec.cell
  have hf:=hE.dec.frozen
  have HU:=Lh oQ
  clear hE fU sP fD
  ((repeat revert K);refine vS ?_;(repeat with_reducible intro K hK))
  ((refine cJ [0] fun f=>?_);go_quiet (fail);((repeat revert K);refine vg ?_;(repeat with_reducible intro K hK));refine Qk [2,3] fun f=>?_)
  rw [←HU.out]
  exact zT.out _ (by rw [Na.out];rfl) f _ v7 (HE.out.drewN _) (rH.out.drawn _)
 | cons b r=>
  have fD:=Lh (bH x HX.out.toOk c HD.out w6 v6 b r e6 bf h6)
  clear h6
  (revert K;refine vg ?_;(repeat with_reducible intro K hK))
  refine fD.out.mono ?_
  rintro e7 w7 ⟨rfl,v7,h7,SO,sP,fU,ZU⟩
  have rH:=Lh (nD.out.s0 fU sP)
  have DR:=Lh h7
  clear h7 SO sP fU ZU fD
  have vO:(((b0.toNat:Int)==45)=false∧b0≠45)∨(((b0.toNat:Int)==45)=true∧b0=45∧((b1.toNat:Int)==45)=false∧b1≠45)∨(((b0.toNat:Int)==45)=true∧b0=45∧((b1.toNat:Int)==45)=true∧b1=45∧((b.toNat:Int)==62)=false∧b≠62)∨(((b0.toNat:Int)==45)=true∧b0=45∧((b1.toNat:Int)==45)=true∧b1=45∧((b.toNat:Int)==62)=true∧b=62):=by
   by_cases h0:b0=45
   ·subst h0
    by_cases h1:b1=45
    ·subst h1
     by_cases h2:b=62
     ·subst h2;exact Or.inr (Or.inr (Or.inr ⟨rfl,rfl,rfl,rfl,rfl,rfl⟩))
     ·exact Or.inr (Or.inr (Or.inl ⟨rfl,rfl,rfl,rfl,eU h2 rfl,h2⟩))
    ·exact Or.inr (Or.inl ⟨rfl,rfl,eU h1 rfl,h1⟩)
   ·exact Or.inl ⟨eU h0 rfl,h0⟩
  rcases vO with ⟨c0,c0'⟩|⟨c0,c0',c1,c1'⟩|⟨c0,c0',c1,c1',c2,c2'⟩|⟨c0,c0',c1,c1',c2,c2'⟩
  case inr.inr.inr=>
   have dB:=Lh (show cR x.o.fails rest 0 0=.ok r by rw [Na.out];unfold cR;rw [if_pos ⟨c0',c1',c2'⟩])
   have mZ:=Lh (gF x HX.out.toOk c w7 v7 r none bf DR.out 32 (by have:=HL.out;omega))
   ((repeat revert K);refine vS ?_;intro K hK)
   refine mZ.out.mono ?_
   rintro e8 w8 ⟨rfl,v8,⟨h8,LP,SP⟩,_⟩
   have xL:=Lh (rH.out.trans SP)
   have E6:=Lh h8
   clear h8 LP SP mZ
   (revert K;refine vS ?_)
   refine Qk [0,21,22] fun f=>?_
   exact DL.out r dB.out f w8 v8 E6.out xL.out
  all_goals
   have HCN:=Lh (show ¬ (b0=45∧b1=45∧b=62) by first|exact fun hh=>c0' hh.1|exact fun hh=>c1' hh.2.1|exact fun hh=>c2' hh.2.2)
   ((repeat revert K);refine vS ?_;intro K hK)
   (refine Kk [0,21,22,26,27] fun f=>?_)
   refine dN.out _ _ ⟨r.length,by rw [HK.out];simp,HJ.out _ _ _ ⟨f,v7,r,b1,b,none,by first|rfl|(subst c1';rfl),DR.out,rH.out,rfl,?_⟩⟩
   rw [Na.out];conv=>lhs;unfold cR
   rw [if_neg HCN.out]
end Go.Proofs.YtdjdjbpnbjdaaaaGreatDoor
