/- Part of the proof that laws.FnRawTokens returns true for every argument. No conditions. -/
import Derived.Test.YtdjdjbpnbjdaaaaGreatDoorP37
import Derived.Test.YtdjdjbpnbjdaaaaGreatDoorP30
import Derived.Test.YtdjdjbpnbjdaaaaGreatDoorP27
set_option linter.all false
set_option maxHeartbeats 8000000
set_option maxRecDepth 100000
namespace Go.Proofs.YtdjdjbpnbjdaaaaGreatDoor
open Go
theorem EU (f:Bool):∀ (p r:Bs),fH f p (p++r)=.ok r
 | [],r=>by simp [fH]
 | c::p,r=>by rw [List.cons_append,fH,if_pos rfl];exact EU f p r
theorem OC {f:Bool}:∀ {p l r:Bs},fH f p l=.ok r→l=p++r
 | [],l,r,h=>by unfold fH at h;simpa using h
 | c::p,[],r,h=>by unfold fH at h;cases h
 | c::p,b::l,r,h=>by
  unfold fH at h
  split at h
  ·rename_i hb;subst hb;rw [OC h];rfl
  ·cases h
def WL (t:aP) (em:Bool):Option (Bs×Bs):=
 match t with
 | .start nm _=>if em then some nm else none
 | _=>none
theorem Mf (o:cU) {r r2:Bs} {t:aP} (h:pN r=.ok (t,r2)):kK o r=.ok (t,r2)∧∀ em,WL t em=none:=by
 unfold pN at h
 split at h
 ·rename_i hp
  obtain ⟨y,rfl⟩:=List.isPrefixOf_iff_prefix.1 hp
  rw [show (([45,45]:Bs)++y).drop 2=y from rfl] at h
  cases hc:cZ y with
  | error e=>rw [hc] at h;cases h
  | ok x=>
   obtain ⟨d,r3⟩:=x
   rw [hc] at h
   simp only [cI,cC] at h
   obtain ⟨rfl,rfl⟩:=h
   refine ⟨?_,fun _=>rfl⟩
   unfold kK
   simp only [List.cons_append,List.nil_append,if_true]
   rw [RH hc]
 ·split at h
  ·rename_i hp
   obtain ⟨y,rfl⟩:=List.isPrefixOf_iff_prefix.1 hp
   rw [show (JB++y).drop 7=y from rfl] at h
   cases hc:eG ((JB++y).length+1) y [] with
   | error e=>rw [hc] at h;cases h
   | ok x=>
    obtain ⟨d,r3⟩:=x
    rw [hc] at h
    simp only [cI,cC] at h
    obtain ⟨rfl,rfl⟩:=h
    refine ⟨?_,fun _=>rfl⟩
    have h9:=yO o _ y 0 0 [] d r3 hc (.of (by decide) (by decide)) jF
    have h8:=EU o.fails [67,68,65,84,65,91] y
    unfold kK
    rw [show JB++y=91::([67,68,65,84,65,91]++y) from rfl]
    simp only
    rw [if_neg (by decide)]
    simp only [if_true]
    rw [h8]
    simp only
    rw [h9]
  ·split at h
   ·rename_i hp
    obtain ⟨y,rfl⟩:=List.isPrefixOf_iff_prefix.1 hp
    rw [show (vU++y).drop 7=y from rfl] at h
    cases hc:sC y with
    | error e=>rw [hc] at h;cases h
    | ok x=>
     obtain ⟨d,r3⟩:=x
     rw [hc] at h
     simp only [cI,cC] at h
     obtain ⟨rfl,rfl⟩:=h
     refine ⟨?_,fun _=>rfl⟩
     have h9:=Wp o hc
     unfold kK
     rw [show vU++y=68::([79,67,84,89,80,69]++y) from rfl]
     simp only
     rw [if_neg (by decide),if_neg (by decide),h9]
   ·split at h
    ·cases h
    ·split at h<;>cases h
theorem Eb (o:cU) {r:Bs} (h:pN r=.error .bad) (x:aP×Bs):kK o r≠.ok x:=by
 unfold pN at h
 split at h
 ·rename_i hp
  obtain ⟨y,rfl⟩:=List.isPrefixOf_iff_prefix.1 hp
  rw [show (([45,45]:Bs)++y).drop 2=y from rfl] at h
  have hc:cZ y=.error .bad:=by
   cases hc:cZ y with
   | error e=>rw [hc] at h;simpa using h
   | ok z=>rw [hc] at h;cases h
  unfold kK
  simp only [List.cons_append,List.nil_append,if_true]
  cases hl:bY o.fails y 0 0 [] with
  | error e=>simp
  | ok z=>exact absurd hl (N6 hc z.1 z.2)
 ·rename_i MC
  split at h
  ·rename_i hp
   obtain ⟨y,rfl⟩:=List.isPrefixOf_iff_prefix.1 hp
   rw [show (JB++y).drop 7=y from rfl] at h
   have hc:eG ((JB++y).length+1) y []=.error .bad:=by
    cases hc:eG ((JB++y).length+1) y [] with
    | error e=>rw [hc] at h;simpa using h
    | ok z=>rw [hc] at h;cases h
   have h8:=EU o.fails [67,68,65,84,65,91] y
   unfold kK
   rw [show JB++y=91::([67,68,65,84,65,91]++y) from rfl]
   simp only
   rw [if_neg (by decide)]
   simp only [if_true]
   rw [h8]
   simp only
   cases hl:aX o none true y 0 0 [] with
   | error e=>simp
   | ok z=>exact absurd hl (uX o _ y 0 0 [] hc (.of (by decide) (by decide)) jF z.1 z.2)
  ·rename_i xJ
   split at h
   ·rename_i hp
    exfalso
    generalize r.drop 7=y at h
    cases hc:sC y with
    | ok z=>rw [hc] at h;cases h
    | error e=>
     rw [hc] at h
     simp only [Except.error.injEq] at h
     subst h
     unfold sC at hc
     split at hc
     ·cases hc
     ·split at hc
      ·cases hc
      ·split at hc<;>cases hc
   ·cases r with
    | nil=>unfold kK;simp
    | cons b t=>
     simp only at h
     split at h
     ·rename_i hb
      unfold kK
      simp only
      by_cases wP:b=45
      ·subst wP
       rw [if_pos rfl]
       cases t with
       | nil=>simp
       | cons c t2=>
        simp only
        by_cases hc:c=45
        ·subst hc;exact absurd (show ([45,45]:Bs).isPrefixOf (45::45::t2)=true by simp [List.isPrefixOf]) MC
        ·rw [if_neg hc];simp
      ·have VI:b=91:=hb.resolve_left wP
       subst VI
       rw [if_neg wP,if_pos rfl]
       cases hm:fH o.fails [67,68,65,84,65,91] t with
       | error e=>simp
       | ok z=>
        rw [OC hm] at xJ
        exact absurd (by rw [List.isPrefixOf_iff_prefix];exact ⟨z,rfl⟩) xJ
     ·cases h
theorem Xa (o:cU) {r r2:Bs} {nm:Bs×Bs} (h:sD r=.ok (nm,r2)):o7 o r=.ok (.fin nm,r2):=by
 unfold sD at h
 cases hn:iB r with
 | error e=>rw [hn] at h;cases h
 | ok x=>
  obtain ⟨nm',r1⟩:=x
  rw [hn] at h
  obtain ⟨n1,_,_,_⟩:=sL (f:=o.fails) hn
  cases hs:aM r1 with
  | nil=>simp only [hs] at h;cases h
  | cons b t=>
   simp only [hs] at h
   have mF:r1≠[]:=fun hh=>by rw [hh] at hs;cases hs
   unfold o7
   rw [n1 mF]
   simp only [hs]
   split at h
   ·rename_i hb
    simp only [cI,cC] at h
    obtain ⟨rfl,rfl⟩:=h
    rw [if_pos hb]
   ·cases h
theorem Mg (o:cU) {r:Bs} (h:sD r=.error .bad) (x:aP×Bs):o7 o r≠.ok x:=by
 unfold sD at h
 unfold o7
 cases hn:iB r with
 | error e=>
  rw [hn] at h
  simp only [Except.error.injEq] at h
  subst h
  cases hx:cE o.fails r with
  | error e=>simp
  | ok z=>exact absurd hx (ER hn z)
 | ok y=>
  obtain ⟨nm',r1⟩:=y
  rw [hn] at h
  obtain ⟨n1,n2,_,_⟩:=sL (f:=o.fails) hn
  by_cases mF:r1=[]
  ·rw [n2 mF];simp
  ·rw [n1 mF]
   cases hs:aM r1 with
   | nil=>simp only [hs];simp
   | cons b t=>
    simp only [hs] at h ⊢
    split at h
    ·cases h
    ·rename_i hb;rw [if_neg hb];simp
theorem Ec (o:cU) {ents:aO} (hE:lV o.ents ents) {r r2:Bs} {nm:Bs×Bs} {ats:List eI} {em:Bool} (h:fQ ents r=.ok (nm,ats,em,r2)):fI o r=.ok ((nm,ats),em,r2):=by
 unfold fQ at h
 cases hn:iB r with
 | error e=>rw [hn] at h;cases h
 | ok x=>
  obtain ⟨nm',r1⟩:=x
  rw [hn] at h
  simp only at h
  obtain ⟨n1,_,_,_⟩:=sL (f:=o.fails) hn
  cases ha:dL ents (r1.length+1) r1 [] with
  | error e=>rw [ha] at h;cases h
  | ok y=>
   obtain ⟨ats',em',r3⟩:=y
   rw [ha] at h
   simp only [cI,cC] at h
   obtain ⟨rfl,rfl,rfl,rfl⟩:=h
   have mF:r1≠[]:=fun hh=>by rw [hh] at ha;simp [dL,aM] at ha
   unfold fI
   rw [n1 mF]
   simp only
   rw [N8 o hE _ _ _ _ _ _ ha]
theorem WM (o:cU) {ents:aO} (hE:lV o.ents ents) (dA:o.strict=true) (cB:sV o) {r:Bs} (h:fQ ents r=.error .bad) (x:((Bs×Bs)×List eI)×Bool×Bs):fI o r≠.ok x:=by
 unfold fQ at h
 unfold fI
 cases hn:iB r with
 | error e=>
  rw [hn] at h
  simp only [Except.error.injEq] at h
  subst h
  cases hx:cE o.fails r with
  | error e=>simp
  | ok z=>exact absurd hx (ER hn z)
 | ok y=>
  obtain ⟨nm',r1⟩:=y
  rw [hn] at h
  simp only at h
  obtain ⟨n1,n2,_,_⟩:=sL (f:=o.fails) hn
  by_cases mF:r1=[]
  ·rw [n2 mF];simp
  ·rw [n1 mF]
   simp only
   cases ha:dL ents (r1.length+1) r1 [] with
   | ok y=>rw [ha] at h;cases h
   | error e=>
    rw [ha] at h
    simp only [Except.error.injEq] at h
    subst h
    cases hl:dD o (r1.length+1) r1 [] with
    | error e=>simp
    | ok z=>exact absurd hl (IA o hE dA cB _ _ _ ha z)
theorem OD (o:cU) {ents:aO} (hE:lV o.ents ents) {first em:Bool} {t:aP} {r:Bs} (st:St) (h1:st.ended=false) (h2:st.toClose=none) (h:nF ents first st.rest=.ok (t,em,r)) :
  ∃ en,fS o st=.ok (t,{ st with rest:=r,toClose:=WL t em,ended:=en })∧(en=true→r=[]∧∃ d,t=.text d):=by
 obtain ⟨rest,ended,toClose,stk,ns,next⟩:=st
 simp only at h1 h2 h ⊢
 subst h1 h2
 unfold nF at h
 cases rest with
 | nil=>cases h
 | cons b l=>
  simp only at h
  split at h
  ·rename_i hb
   cases ht:dK ents ((b::l).length+1) (b::l) [] with
   | error e=>rw [ht] at h;cases h
   | ok x=>
    obtain ⟨d,r2⟩:=x
    rw [ht] at h
    simp only [cI,cC] at h
    obtain ⟨rfl,rfl,rfl⟩:=h
    have h9:=yN o hE _ _ 0 0 [] d r2 ht (.of (by decide) (by decide)) jF
    refine ⟨r2==[],?_,fun h=>⟨by simpa using h,d,rfl⟩⟩
    unfold fS
    simp only [Bool.false_eq_true,if_false]
    rw [if_pos hb,h9]
    rfl
  ·rename_i hb
   cases l with
   | nil=>cases h
   | cons c l2=>
    simp only at h
    refine ⟨false,?_,fun h=>by cases h⟩
    unfold fS
    simp only [Bool.false_eq_true,if_false]
    rw [if_neg hb]
    try simp only
    split at h
    ·rename_i hc
     rw [if_pos hc]
     cases he:sD l2 with
     | error e=>rw [he] at h;cases h
     | ok x=>
      obtain ⟨nm,r3⟩:=x
      rw [he] at h
      simp only [cI,cC] at h
      obtain ⟨rfl,rfl,rfl⟩:=h
      rw [Xa o he]
      rfl
    ·rename_i Xb
     rw [if_neg Xb]
     split at h
     ·rename_i hc
      rw [if_pos hc]
      cases he:fW first l2 with
      | error e=>rw [he] at h;cases h
      | ok x=>
       obtain ⟨⟨tg,s⟩,r3⟩:=x
       rw [he] at h
       simp only [cI,cC] at h
       obtain ⟨rfl,rfl,rfl⟩:=h
       rw [Lv o he]
       rfl
     ·rename_i Xc
      rw [if_neg Xc]
      split at h
      ·rename_i hc
       rw [if_pos hc]
       cases he:pN l2 with
       | error e=>rw [he] at h;cases h
       | ok x=>
        obtain ⟨t',r3⟩:=x
        rw [he] at h
        simp only [cI,cC] at h
        obtain ⟨rfl,rfl,rfl⟩:=h
        obtain ⟨h8,h9⟩:=Mf o he
        rw [h8,h9]
      ·rename_i Xd
       rw [if_neg Xd]
       cases he:fQ ents (c::l2) with
       | error e=>rw [he] at h;cases h
       | ok x=>
        obtain ⟨nm,ats,em',r3⟩:=x
        rw [he] at h
        simp only [cI,cC] at h
        obtain ⟨rfl,rfl,rfl⟩:=h
        rw [Ec o hE he]
        rfl
theorem WN (o:cU) {ents:aO} (hE:lV o.ents ents) (dA:o.strict=true) (rT:o.fails=false) (cB:sV o) {first:Bool} (st:St) (h1:st.ended=false) (h2:st.toClose=none) (h:nF ents first st.rest=.error .bad):fS o st=.error .syn:=by
 obtain ⟨rest,ended,toClose,stk,ns,next⟩:=st
 simp only at h1 h2 h ⊢
 subst h1 h2
 have hy:∀ {α:Type} {r:Except EK α},BL o.fails r→(∀ x,r≠.ok x)→r=.error .syn:=fun {α} {r} hn hx=>by
  cases r with
  | ok x=>exact absurd rfl (hx x)
  | error e=>
   rcases hn e rfl with rfl|rfl
   ·rfl
   ·rw [rT];rfl
 unfold nF at h
 cases rest with
 | nil=>cases h
 | cons b l=>
  simp only at h
  unfold fS
  simp only [Bool.false_eq_true,if_false]
  split at h
  ·rename_i hb
   rw [if_pos hb]
   have ht:dK ents ((b::l).length+1) (b::l) []=.error .bad:=by
    cases ht:dK ents ((b::l).length+1) (b::l) [] with
    | error e=>rw [ht] at h;simpa using h
    | ok x=>rw [ht] at h;cases h
   rw [hy (ET o none false _ _ (Nat.le_refl _) 0 0 []) (fun x=>uW o hE dA cB _ _ 0 0 [] ht (.of (by decide) (by decide)) jF x.1 x.2)]
  ·rename_i hb
   rw [if_neg hb]
   cases l with
   | nil=>simp only;rw [rT];rfl
   | cons c l2=>
    simp only at h ⊢
    split at h
    ·rename_i hc
     rw [if_pos hc]
     have he:sD l2=.error .bad:=by
      cases he:sD l2 with
      | error e=>rw [he] at h;simpa using h
      | ok x=>rw [he] at h;cases h
     rw [hy (Me o l2) (Mg o he)]
    ·rename_i Xb
     rw [if_neg Xb]
     split at h
     ·rename_i hc
      rw [if_pos hc]
      have he:fW first l2=.error .bad:=by
       cases he:fW first l2 with
       | error e=>rw [he] at h;simpa using h
       | ok x=>rw [he] at h;cases h
      rw [hy (Wz o l2 (N7 o he default).2) (fun x=>(N7 o he x).1)]
     ·rename_i Xc
      rw [if_neg Xc]
      split at h
      ·rename_i hc
       rw [if_pos hc]
       have he:pN l2=.error .bad:=by
        cases he:pN l2 with
        | error e=>rw [he] at h;simpa using h
        | ok x=>rw [he] at h;cases h
       rw [hy (Ea o l2) (Eb o he)]
      ·rename_i Xd
       rw [if_neg Xd]
       have he:fQ ents (c::l2)=.error .bad:=by
        cases he:fQ ents (c::l2) with
        | error e=>rw [he] at h;simpa using h
        | ok x=>rw [he] at h;cases h
       rw [hy (WK o (c::l2)) (WM o hE dA cB he)]
def jT (T:Bs) (l:List (aP×St)):List (aP×Nat):=l.map fun p=>(p.1,T.length-p.2.rest.length)
def a3D:Option SV→EK
 | none=>.eof
 | some _=>.syn
theorem Ed (t:aP):1≤t.wt:=by cases t<;>simp [aP.wt]
theorem WO {o:m7} (fT:o.raw=true) (s:iV) (t:aP) (em:Bool):m8 o s t em=.ok (match WL t em with|some nm=>[t,.fin nm]|none=>[t],s):=by
 cases t with
 | start nm ats=>
  unfold m8 x3 iO WL
  rw [fT]
  cases em<;>simp
 | fin nm=>unfold m8 iO WL;rw [fT];rfl
 | text d=>rfl
 | comment d=>rfl
 | dir d=>rfl
 | proc a b=>rfl
theorem EV (fold:Bs→Bs→Bool) (o:cU) (fT:o.raw=true) (dA:o.strict=true) (rT:o.fails=false) (cB:sV o) (so:m7) (hso:so.raw=true) (hE:lV o.ents so.ents) (T:Bs):∀ (k:Nat) (s:iV) (out:List (aP×Nat)) (st:St),s.rest.length<k→st.rest=s.rest→st.toClose=none→(st.ended=true→s.rest=[])→s.opens=[]→(qU so T k s out).2≠some .opn →
  ∃ l,o8 fold o st l (a3D (qU so T k s out).2)∧(qU so T k s out).1=out++jT T l
 | 0,_,_,_,h,_,_,_,_,_=>by omega
 | k+1,s,out,st,hk,h1,h2,h3,h4,hv=>by
  have uR:∀ st:St,l8 fold o st=fS o st:=fun st=>by unfold l8;rw [if_pos fT]
  unfold qU at hv ⊢
  by_cases hr:s.rest=[]
  ·rw [if_pos hr,if_pos h4]
   refine ⟨[],.stop ?_,by simp [jT]⟩
   rw [uR]
   unfold fS
   rw [h2,h1,hr,rT]
   split<;>rfl
  ·have rI:st.ended=false:=by
    cases hh:st.ended with
    | false=>rfl
    | true=>exact absurd (h3 hh) hr
   rw [if_neg hr] at hv ⊢
   unfold jQ at hv ⊢
   cases hp:nF so.ents (s.rest.length==T.length) s.rest with
   | error e=>
    rw [hp] at hv
    simp only at hv ⊢
    have hb:e=.bad:=by
     cases e with
     | bad=>rfl
     | opn=>exact absurd rfl hv
    subst hb
    refine ⟨[],.stop ?_,by simp [jT]⟩
    rw [uR]
    exact WN o hE dA rT cB st rI h2 (by rw [h1];exact hp)
   | ok x=>
    obtain ⟨t,em,r⟩:=x
    rw [hp] at hv
    simp only [WO hso] at hv ⊢
    obtain ⟨en,hl,Xe⟩:=OD o hE st rI h2 (by rw [h1];exact hp)
    have bF:r.length<s.rest.length:=by
     obtain ⟨_,_,_,_,_,_,h7⟩:=mS hl
     rcases h7 with ⟨nm,h8,_⟩|⟨_,h8,_⟩
     ·rw [h2] at h8;cases h8
     ·have:=Ed t
      simp only at h8
      rw [h1] at h8
      omega
    cases sQ:WL t em with
    | none=>
     rw [sQ] at hv hl
     simp only [List.map_cons,List.map_nil] at hv ⊢
     obtain ⟨l,i1,i2⟩:=EV fold o fT dA rT cB so hso hE T k { s with rest:=r } _ { st with rest:=r,toClose:=none,ended:=en } (by show r.length<k;omega) rfl rfl (fun h=>(Xe h).1) h4 hv
     refine ⟨_::l,.more (by rw [uR];exact hl) i1,?_⟩
     rw [i2]
     simp [jT]
    | some nm=>
     rw [sQ] at hv hl
     simp only [List.map_cons,List.map_nil] at hv ⊢
     have a5F:en=false:=by
      cases hh:en with
      | false=>rfl
      | true=>obtain ⟨_,d,rfl⟩:=Xe hh;cases sQ
     obtain ⟨l,i1,i2⟩:=EV fold o fT dA rT cB so hso hE T k { s with rest:=r } _ { st with rest:=r,toClose:=none,ended:=en } (by show r.length<k;omega) rfl rfl (fun h=>(Xe h).1) h4 hv
     have y8:fS o { st with rest:=r,toClose:=some nm,ended:=en }=.ok (.fin nm,{ st with rest:=r,toClose:=none,ended:=en }):=by
      unfold fS
      rw [a5F]
      rfl
     refine ⟨_::_::l,.more (by rw [uR];exact hl) (.more (by rw [uR];exact y8) i1),?_⟩
     rw [i2]
     simp [jT]
theorem Mh (fold:Bs→Bs→Bool) (o:cU) (fT:o.raw=true) (dA:o.strict=true) (rT:o.fails=false) (t6:o.ents=none) (sp:Bs) (T:Bs) (hv:(gI ⟨true,[],sp⟩ T).2≠some .opn) :
  ∃ l,o8 fold o (St.init T) l (a3D (gI ⟨true,[],sp⟩ T).2)∧(gI ⟨true,[],sp⟩ T).1=jT T l:=by
 obtain ⟨l,h1,h2⟩:=EV fold o fT dA rT (RE t6) ⟨true,[],sp⟩ rfl (by rw [t6];exact EI) T (T.length+1) ⟨T,[],[]⟩ [] (St.init T) (Nat.lt_succ_self _) rfl rfl (fun h=>by cases h) rfl hv
 exact ⟨l,h1,by rw [List.nil_append] at h2;exact h2⟩
end Go.Proofs.YtdjdjbpnbjdaaaaGreatDoor
namespace Go.Proofs.YtdjdjbpnbjdaaaaGreatDoor
open Go Go.RowKit
theorem WP (a b:aO) (s:Bs):iI (a++b) s=match iI a s with|some t=>some t|none=>iI b s:=by
 unfold iI
 rw [List.find?_append]
 cases a.find? (·.1==s)<;>rfl
theorem RL (ents:aO):lV (some (iI ents)) ents:=by
 intro s
 rw [WP]
 have h:=EI s
 rw [List.append_nil] at h
 rw [←h]
 unfold yZ
 cases pV s<;>rfl
theorem OE {ents:aO} {first em:Bool} {t:aP} {rest r:Bs} (h:nF ents first rest=.ok (t,em,r)):r.length<rest.length:=by
 obtain ⟨en,hl,_⟩:=OD ⟨false,true,some (iI ents),[],[],false⟩ (RL ents) (St.init rest) rfl rfl (first:=first) (em:=em) (t:=t) (r:=r) h
 obtain ⟨_,_,_,_,_,_,h7⟩:=mS hl
 rcases h7 with ⟨nm,h8,_⟩|⟨_,h8,_⟩
 ·cases h8
 ·have:=Ed t
  simp only [St.init] at h8
  omega
theorem yR {raw:Bool} {space:Bs} {s s2:iV} {nm:Bs×Bs} {t:aP} (h:iO raw space s nm=.ok (t,s2)):s2.rest=s.rest∧s2.opens.length≤s.opens.length∧(s.bound.length=s.opens.length→s2.bound.length=s2.opens.length):=by
 unfold iO at h
 split at h
 ·simp only [cI,cC] at h
  rw [←h.2];exact ⟨rfl,Nat.le_refl _,id⟩
 ·cases ho:s.opens with
  | nil=>rw [ho] at h;cases h
  | cons a l=>
   rw [ho] at h
   simp only at h
   split at h
   ·simp only [cI,cC] at h
    rw [←h.2]
    refine ⟨rfl,by simp,fun hb=>?_⟩
    simp only [List.length_tail,List.length_cons] at hb ⊢
    omega
   ·cases h
theorem OF {raw:Bool} {space:Bs} {s s2:iV} {nm:Bs×Bs} {ats:List eI} {t:aP} (h:x3 raw space s nm ats=.ok (t,s2)):s2.rest=s.rest∧s2.opens.length≤s.opens.length+1∧(s.bound.length=s.opens.length→s2.bound.length=s2.opens.length):=by
 unfold x3 at h
 split at h
 ·simp only [cI,cC] at h
  rw [←h.2];exact ⟨rfl,by omega,id⟩
 ·split at h
  ·cases h
  ·split at h
   ·cases h
   ·split at h
    ·cases h
    ·split at h
     ·cases h
     ·simp only [cI,cC] at h
      rw [←h.2]
      exact ⟨rfl,by simp,fun hb=>by simp [hb]⟩
theorem IE {o:m7} {first:Bool} {s s2:iV} {ts:List aP} (h:jQ o first s=.ok (ts,s2)):s2.rest.length<s.rest.length∧ts.length≤2∧s2.opens.length≤s.opens.length+1∧(s.bound.length=s.opens.length→s2.bound.length=s2.opens.length):=by
 unfold jQ at h
 cases hp:nF o.ents first s.rest with
 | error e=>rw [hp] at h;cases h
 | ok x=>
  obtain ⟨t,em,r⟩:=x
  have bB:=OE hp
  rw [hp] at h
  simp only at h
  unfold m8 at h
  split at h
  ·rename_i nm ats
   cases ho:x3 o.raw o.space { s with rest:=r } nm ats with
   | error e=>rw [ho] at h;cases h
   | ok y=>
    obtain ⟨t1,s1⟩:=y
    obtain ⟨g1,g2,g3⟩:=OF ho
    have g2':s1.opens.length≤s.opens.length+1:=g2
    rw [ho] at h
    simp only at h
    split at h
    ·cases hc:iO o.raw o.space s1 nm with
     | error e=>rw [hc] at h;cases h
     | ok z=>
      obtain ⟨t2,s3⟩:=z
      obtain ⟨k1,k2,k3⟩:=yR hc
      rw [hc] at h
      simp only [cI,cC] at h
      rw [←h.1,←h.2,k1,g1]
      exact ⟨bB,by simp,by omega,fun hb=>k3 (g3 hb)⟩
    ·simp only [cI,cC] at h
     rw [←h.1,←h.2,g1]
     exact ⟨bB,by simp,g2,g3⟩
  ·rename_i nm
   cases hc:iO o.raw o.space { s with rest:=r } nm with
   | error e=>rw [hc] at h;cases h
   | ok z=>
    obtain ⟨t2,s3⟩:=z
    obtain ⟨k1,k2,k3⟩:=yR hc
    rw [hc] at h
    simp only [cI,cC] at h
    rw [←h.1,←h.2,k1]
    exact ⟨bB,by simp,by simp only at k2;omega,k3⟩
  ·simp only [cI,cC] at h
   rw [←h.1,←h.2]
   exact ⟨bB,by simp,by simp,id⟩
def tD (q:aP×Nat):cH:={ q.1.itok [] with at':=q.2 }
def Ee:Option SV→Int
 | none=>0
 | some k=>k.num
def a3E (x:PX) (base:Nat) (o:m7) (w0:World) (k:Nat) (ac:Act) (w:World):Prop:=
 ∃ f c opens bound outP m,ac=fr 45 f [(10,oM x)]∧hY x base w c opens bound (outP.map tD)∧Below base w0 w∧k=x.T.length-c.at'∧c.at'≤x.T.length∧outP.length≤2*c.at'∧opens.length≤c.at'∧bound.length=opens.length∧x.T.length-c.at'<m∧gI o x.T=qU o x.T m ⟨x.T.drop c.at',opens,bound⟩ outP
def rC (o:m7) (T:Bs) (w:World) (e:Ending) (w':World):Prop:=
 ∃ out xs,e=.returned (.tuple #[out,.int .i64 (Ee (gI o T).2)])∧Below w.heap.size w w'∧w'.ownsRow w.heap.size 61 6 out (gI o T).1.length xs∧cS (lB w' w.heap.size (fun _=>True)) ((gI o T).1.map tD) xs
theorem rC.of {x:PX} {o:m7} {w w':World} {c:PC} {opens:List Bs} {bound:List aO} {outP:List (aP×Nat)} {v:Option SV} (hr:gI o x.T=(outP,v)) (h:hY x w.heap.size w' c opens bound (outP.map tD)) (hb:Below w.heap.size w w'):rC o x.T w (.returned (.tuple #[c.out,.int .i64 (Ee v)])) w':=by
 obtain ⟨xs,h1,h2⟩:=h.out
 refine ⟨c.out,xs,by rw [hr],hb,by rw [hr];simpa using h1,?_⟩
 rw [hr]
 exact h2.mono (fun _ _ hh=>hh.mod (aK.refl (fun _=>False) _) (fun _ _ _=>⟨id,trivial⟩))
theorem Xf (T:Bs) (hT:T.length≤100000000) (o:m7) (KU:pT o.ents) (ev:Value) (w:World) (x:PX) (hx:x=⟨w.heap.size,T,o.raw,ev,o.space⟩) (tQ:∃ A B C,ev=.slice A B C) (hE:sS x w.heap.size o.ents w) (Ds:Lo x w.heap.size) (WY:Dd x w.heap.size) :
  Calls Tryz.prog 4 #[aB T,.bool o.raw,ev,aB o.space] w (rC o T w):=by
 obtain ⟨evA,evB,evC,rfl⟩:=tQ
 have e1:x.T=T:=by rw [hx]
 have e2:x.p=w.heap.size:=by rw [hx]
 have e3:x.raw=o.raw:=by rw [hx]
 have e4:x.space=o.space:=by rw [hx]
 have e5:x.ents=.slice evA evB evC:=by rw [hx]
 rw [←e1,←e4,←e3,←e5]
 obtain ⟨wa,jY⟩:∃ wa,wa=w.alloc (.cells (gV x ⟨0,.slice none 0 0,.slice none 0 0,.slice none 0 0,0⟩) 41):=⟨_,rfl⟩
 have J7:aU x wa ⟨0,.slice none 0 0,.slice none 0 0,.slice none 0 0,0⟩:=by rw [jY,aU,e2];exact aJ.new w _ _
 have eZ:Below w.heap.size w wa:=by rw [jY];exact (Below.refl _ w).alloc (Nat.le_refl _) _
 have dA:hY x w.heap.size wa ⟨0,.slice none 0 0,.slice none 0 0,.slice none 0 0,0⟩ [] [] []:=
  ⟨J7,by rw [e2];exact Nat.le_refl _,⟨[],⟨rfl,Or.inl ⟨rfl,rfl⟩⟩,.nil⟩,⟨[],⟨rfl,Or.inl ⟨rfl,rfl⟩⟩,.nil⟩,⟨[],⟨rfl,Or.inl ⟨rfl,rfl⟩⟩,.nil⟩,by simp [Value.ownBlock],fun k hk=>(by cases hk),fun k hk=>(by cases hk)⟩
 have gC:=Lh dA
 have o5:=Lh eZ
 have HE:=Lh hE
 have xG:=Lh KU
 have HOO:=Lh Ds
 have Wk:=Lh WY
 have I9:=Lh e1
 have HT:=Lh (show x.T.length≤100000000 by rw [e1];exact hT)
 have Yv:=Lh e3.symm
 have Yw:=Lh e4.symm
 have n7:w.alloc (.cells #[aB x.T,.int .i64 0,.bool x.raw,.slice evA evB evC,aB x.space,.slice none 0 0,.slice none 0 0,.slice none 0 0,.int .i64 0] 41)=wa:=by rw [jY,←e5];rfl
 have HW2:=Lh n7
 have GX:oM x=.pointer (some ⟨w.heap.size,0,none⟩):=by rw [←e2]
 have HPP:=Lh GX
 clear hx hT KU hE Ds WY J7 eZ dA e1 e2 e3 e4 jY n7 GX
 refine eJ 45 Tryz.func4 [_,_,_,_] fun f=>?_
 simp only [aE]
 (refine vg ?_;intro K hK)
 rw [HW2.out,←HPP.out]
 (refine cJ [10] fun f=>?_)
 refine wp_loop_ghost_k (a3E x w.heap.size o w) x.T.length ⟨f,_,[],[],[],x.T.length+1,rfl,gC.out,o5.out,rfl,Nat.zero_le _,Nat.zero_le _,Nat.zero_le _,rfl,by simp,rfl⟩ ?_
 clear e5 gC o5
 rintro k _ w2 ⟨f,c,opens,bound,outP,m,rfl,dA,eZ,hk,iK,BG,Cf,sB,GN,iH⟩ J K2 hJ cY
 obtain ⟨m',rfl⟩:∃ m',m=m'+1:=⟨m-1,by omega⟩
 have HJ:=Lh hJ
 have dN:=Lh cY
 have gC:=Lh dA
 have o5:=Lh eZ
 have HK:=Lh hk
 have kA:=Lh iK
 have xD:=Lh BG
 have Ds:=Lh Cf
 have HBD:=Lh sB
 have sO:=Lh GN
 have BZ:=Lh iH
 clear hJ cY eZ hk iK BG Cf sB GN iH
 by_cases bB:c.at'<x.T.length
 rotate_left
 ·have AG:=Lh (fun (w':World) (h1:aU x w' c)=>qC x w' c h1 (by omega))
  have HR:=Lh (show gI o x.T=(outP,if opens=[] then none else some .bad) by
   rw [BZ.out,List.drop_eq_nil_of_le (by omega)]
   unfold qU
   simp only [if_true])
  obtain ⟨oA,oC,a5G⟩:∃ oA oC,c.op=.slice oA opens.length oC:=by
   obtain ⟨_,h9,_⟩:=dA.op
   rcases h9.2 with ⟨h9,h8⟩|⟨g,cap,cur,h9,_⟩
   ·exact ⟨none,0,by rw [h9,h8]⟩
   ·exact ⟨_,_,h9⟩
  have hc:=dA.blk.cell
  have hf:=dA.blk.frozen
  have a5v:=Lh a5G
  clear dA bB
  (revert K;refine vg ?_;(repeat with_reducible intro K hK))
  refine (AG.out _ gC.out.blk).mono ?_
  rintro e3 w3 ⟨rfl,k3,rfl⟩
  go_simp
  by_cases Yx:opens=[]
  ·have hz:opens.length=0:=by rw [Yx];rfl
   have fB:=Lh (HR.out.trans (by rw [if_pos Yx]))
   clear Yx
   ((repeat revert K);refine vg ?_)
   (refine kX ?_)
   exact rC.of (c:=c) (v:=none) fB.out (gC.out.fresh ⟨rfl,rfl,rfl,Nat.le_refl _,fun _ _ _=>rfl⟩) ⟨o5.out.os,o5.out.tape,o5.out.output,o5.out.size,o5.out.block⟩
  ·have hz:(0:Int)<(opens.length:Int):=by cases opens with
    | nil=>exact absurd rfl Yx
    | cons=>simp
   have KN:0<opens.length:=by omega
   have fB:=Lh (HR.out.trans (by rw [if_neg Yx]))
   clear Yx
   ((repeat revert K);refine vg ?_;intro K hK)
   (refine kX ?_)
   exact rC.of (c:=c) (v:=some .bad) fB.out (gC.out.fresh ⟨rfl,rfl,rfl,Nat.le_refl _,fun _ _ _=>rfl⟩) ⟨o5.out.os,o5.out.tape,o5.out.output,o5.out.size,o5.out.block⟩
 have AG:=Lh (fun (w':World) (h1:aU x w' c)=>qD x w' c h1 bB)
 have GP:=Lh (fun (w':World) (h1:hY x w.heap.size w' c opens bound (outP.map tD)) (h2:sS x w.heap.size o.ents w')=>Dx x HT.out w.heap.size o xG.out HOO.out Wk.out Yv.out Yw.out w' c opens bound _ h1 (by rw [List.length_map];have:=xD.out;have:=HT.out;omega) (by have:=Ds.out;have:=HT.out;omega) HBD.out bB h2)
 have a3F:=Lh (show gI o x.T=match jQ o (c.at'==0) ⟨x.T.drop c.at',opens,bound⟩ with
   | .error e=>(outP,some e)
   | .ok (ts,s2)=>qU o x.T m' s2 (outP++ts.map fun t=>(t,x.T.length-s2.rest.length)) by
  rw [BZ.out]
  conv=>lhs;unfold qU
  rw [if_neg (fun hh=>by have h9:=congrArg List.length hh;simp only [List.length_drop,List.length_nil] at h9;omega)]
  have e9:((x.T.drop c.at').length==x.T.length)=(c.at'==0):=by
   rw [Bool.eq_iff_iff,beq_iff_eq,beq_iff_eq,List.length_drop];omega
  simp only [e9]
  try rfl)
 clear dA bB
 (revert K;refine vg ?_;(repeat with_reducible intro K hK))
 refine (AG.out _ gC.out.blk).mono ?_
 rintro e3 w3 ⟨rfl,k3,rfl⟩
 ((repeat revert K);refine vS ?_;(repeat with_reducible intro K hK))
 refine (GP.out _ (by exact gC.out.fresh ⟨rfl,rfl,rfl,Nat.le_refl _,fun _ _ _=>rfl⟩) (by exact HE.out.below ⟨o5.out.os,o5.out.tape,o5.out.output,o5.out.size,o5.out.block⟩)).mono ?_
 rintro e4 w4 h4
 obtain ⟨pC,h4⟩:=h4
 have C7:=Lh (show Below w.heap.size w w4 from o5.out.trans ⟨pC.os,pC.tape,pC.output,pC.size,pC.block⟩)
 clear pC
 cases hr:jQ o (c.at'==0) ⟨x.T.drop c.at',opens,bound⟩ with
 | error kk=>
  rw [hr] at h4
  obtain ⟨rfl,c',op',bd',h5,h6⟩:=h4
  have H5:=Lh h5
  have H6:=Lh h6
  have HR:=Lh (show gI o x.T=(outP,some kk) by rw [a3F.out,hr])
  have hc:=h5.blk.cell
  have hf:=h5.blk.frozen
  clear h5 h6 hr
  ((repeat revert K);refine vS ?_;(repeat with_reducible intro K hK))
  go_quiet (fail)
  ((repeat revert K);refine vg ?_;intro K hK)
  (refine kX ?_)
  rw [H6.out]
  exact rC.of (c:=c') (v:=some kk) HR.out (H5.out.fresh ⟨rfl,rfl,rfl,Nat.le_refl _,fun _ _ _=>rfl⟩) ⟨C7.out.os,C7.out.tape,C7.out.output,C7.out.size,C7.out.block⟩
 | ok q=>
  rw [hr] at h4
  obtain ⟨ts,s2⟩:=q
  obtain ⟨rfl,c',h5,h6,h7⟩:=h4
  obtain ⟨f1,f2,f3,f4⟩:=IE hr
  have h7':s2.rest=x.T.drop c'.at':=h7
  have h6':c'.at'≤x.T.length:=h6
  rw [h7',List.length_drop,List.length_drop] at f1
  have H5:=Lh h5
  have H6:=Lh h6'
  have B5:=Lh f1
  have OP:=Lh f2
  have U0:=Lh f3
  have HF4:=Lh f4
  have HR:=Lh (show gI o x.T=qU o x.T m' ⟨x.T.drop c'.at',s2.opens,s2.bound⟩ (outP++ts.map fun t=>(t,c'.at')) by
   rw [a3F.out,hr]
   simp only
   rw [h7',List.length_drop,show x.T.length-(x.T.length-c'.at')=c'.at' by omega]
   obtain ⟨r9,o9,b9⟩:=s2
   simp only at h7'
   rw [h7'])
  clear h5 h6 h7 hr f1 f2 f3 f4 h7' h6'
  ((repeat revert K);refine vS ?_;intro K hK)
  (refine Kk [10] fun f=>?_)
  refine dN.out _ _ ⟨x.T.length-c'.at',by rw [HK.out];have:=B5.out;omega,HJ.out _ _ _ ⟨f,c',s2.opens,s2.bound,outP++ts.map (fun t=>(t,c'.at')),m',rfl,?_,C7.out,rfl,H6.out,?_,?_,HF4.out HBD.out,by have:=sO.out;have:=B5.out;omega,HR.out⟩⟩
  ·have e9:(outP++ts.map fun t=>(t,c'.at')).map tD=outP.map tD++ts.map fun t=>{ t.itok [] with at':=c'.at' }:=by
    rw [List.map_append,List.map_map]
    rfl
   rw [e9]
   exact H5.out
  ·rw [List.length_append,List.length_map]
   have:=xD.out;have:=B5.out;have:=OP.out;omega
  ·have h8:s2.opens.length≤opens.length+1:=U0.out
   have:=Ds.out;have:=B5.out;omega
end Go.Proofs.YtdjdjbpnbjdaaaaGreatDoor
namespace Go.Proofs.YtdjdjbpnbjdaaaaGreatDoor
open Go
theorem yS {ents:aO} (hl:pT ents):∀ (k:Nat) (rest out d r:Bs),rest.length≤2147483647→dK ents k rest out=.ok (d,r)→d.length≤out.length+(rest.length-r.length)*2147483647∧r.length≤rest.length
 | 0,_,_,_,_,_,h=>by cases h
 | k+1,rest,out,d,r,hT,h=>by
  have e:rest=rest.drop 0:=rfl
  rw [e] at h
  by_cases hn:0<rest.length
  ·by_cases lA:rest.getD 0 0=60
   ·rw [CI ents hn lA] at h
    simp only [cI,cC] at h
    rw [←h.1,←h.2];exact ⟨by omega,by simp⟩
   ·cases hs:pZ.isPrefixOf (rest.drop 0) with
    | true=>rw [yM ents hn lA hs] at h;cases h
    | false=>
     by_cases fZ:rest.getD 0 0=13
     ·rw [CJ ents hn lA hs fZ] at h
      split at h
      ·have ih:=yS hl k _ _ _ _ (by rw [List.length_drop];omega) h
       rw [List.length_drop,List.length_append,List.length_singleton] at ih
       omega
      ·have ih:=yS hl k _ _ _ _ (by rw [List.length_drop];omega) h
       rw [List.length_drop,List.length_append,List.length_singleton] at ih
       omega
     ·rw [CK ents hn lA hs fZ] at h
      cases hd:fR ents (rest.drop 0) with
      | error e=>rw [hd] at h;cases h
      | ok p=>
       obtain ⟨t,r2⟩:=p
       rw [hd] at h
       simp only at h
       have h1:=pU hd
       have h2:=rB hl hT hd
       have ih:=yS hl k r2 _ _ _ (by omega) h
       rw [List.length_append] at ih
       omega
  ·have:rest=[]:=List.eq_nil_of_length_eq_zero (by omega)
   subst this
   rw [NV ents (by simp)] at h
   simp only [cI,cC] at h
   rw [←h.1,←h.2];exact ⟨by omega,by simp⟩
theorem yT:∀ (k:Nat) (rest out d r:Bs),eG k rest out=.ok (d,r)→d.length≤out.length+(rest.length-r.length)∧r.length≤rest.length
 | 0,_,_,_,_,h=>by cases h
 | k+1,rest,out,d,r,h=>by
  have e:rest=rest.drop 0:=rfl
  rw [e] at h
  by_cases hn:0<rest.length
  ·cases hs:pZ.isPrefixOf (rest.drop 0) with
   | true=>
    rw [yK hs] at h
    simp only [cI,cC] at h
    rw [←h.1,←h.2,List.length_drop];omega
   | false=>
    by_cases fZ:rest.getD 0 0=13
    ·rw [CE hn hs fZ] at h
     split at h
     ·have ih:=yT k _ _ _ _ h
      rw [List.length_drop,List.length_append,List.length_singleton] at ih
      omega
     ·have ih:=yT k _ _ _ _ h
      rw [List.length_drop,List.length_append,List.length_singleton] at ih
      omega
    ·rw [CF hn hs fZ] at h
     split at h
     ·cases h
     ·rename_i hz
      have Zj:(aF (rest.drop 0)).2≠0:=fun hh=>hz (Or.inl hh)
      have hw:=m9 (rest.drop 0) (fun hh=>by rw [←e] at hh;rw [hh] at hn;simp at hn)
      have ih:=yT k _ _ _ _ h
      rw [List.length_drop,List.length_append,List.length_take] at ih
      rw [←e] at hw ih Zj
      omega
  ·have:rest=[]:=List.eq_nil_of_length_eq_zero (by omega)
   subst this
   rw [NL (by simp)] at h;cases h
theorem KJ {p:Bs}:∀ {rest s r:Bs},dC p rest=some (s,r)→s.length+r.length≤rest.length
 | [],s,r,h=>by cases h
 | b::l,s,r,h=>by
  unfold dC at h
  split at h
  ·simp only [oY,cC] at h
   rw [←h.1,←h.2,List.length_drop];simp
  ·cases hc:dC p l with
   | none=>rw [hc] at h;cases h
   | some x=>
    obtain ⟨s1,r1⟩:=x
    rw [hc] at h
    simp only [Option.map_some,oY,cC] at h
    have ih:=KJ hc
    rw [←h.1,←h.2];simp only [List.length_cons];omega
theorem Mi {rest s r:Bs} (h:cZ rest=.ok (s,r)):s.length+r.length≤rest.length:=by
 unfold cZ at h
 cases hc:dC [45,45] rest with
 | none=>rw [hc] at h;cases h
 | some x=>
  obtain ⟨s1,r1⟩:=x
  have:=KJ hc
  rw [hc] at h
  simp only at h
  cases r1 with
  | nil=>cases h
  | cons c r2=>
   simp only at h
   split at h
   ·split at h
    ·simp only [cI,cC] at h
     rw [←h.1,←h.2];simp only [List.length_cons] at this;omega
    ·cases h
   ·cases h
theorem Ef {f:Bool} {rest r:Bs} {x:Bs×Bs} (h:fW f rest=.ok (x,r)):x.2.length+r.length≤rest.length:=by
 unfold fW at h
 split at h
 ·cases h
 ·split at h
  ·cases h
  ·have h1:=CO (aD rest).2
   have h2:=uS rest
   cases hc:dC [63,62] (aM (aD rest).2) with
   | none=>rw [hc] at h;cases h
   | some y=>
    obtain ⟨s1,r1⟩:=y
    have:=KJ hc
    rw [hc] at h
    simp only at h
    split at h
    ·cases h
    ·simp only [cI,cC] at h
     rw [←h.1,←h.2];simp only;omega
theorem Mj {rest d r:Bs} (h:sC rest=.ok (d,r)):d.length+r.length≤rest.length∨d.length≤rest.length-r.length:=by
 unfold sC at h
 split at h
 ·cases h
 ·cases hd:nN (aD (aM rest)).2 with
  | none=>rw [hd] at h;cases h
  | some r1=>
   rw [hd] at h
   simp only at h
   split at h
   ·simp only [cI,cC] at h
    right
    rw [←h.1,←h.2,List.length_take];omega
   ·cases h
theorem WQ {ents:aO} (hl:pT ents) {first em:Bool} {rest r:Bs} {t:aP} (hT:rest.length≤2147483647) (h:nF ents first rest=.ok (t,em,r)):(t.itok []).text.length≤(rest.length-r.length)*2147483647:=by
 have bB:=OE h
 unfold nF at h
 cases rest with
 | nil=>cases h
 | cons b r0=>
  simp only at h
  split at h
  ·cases hx:dK ents ((b::r0).length+1) (b::r0) [] with
   | error e=>rw [hx] at h;cases h
   | ok p=>
    obtain ⟨d,r2⟩:=p
    rw [hx] at h
    simp only [cI,cC] at h
    have:=(yS hl _ _ _ _ _ hT hx).1
    rw [←h.1,←h.2.2]
    simpa [aP.itok] using this
  ·cases r0 with
   | nil=>cases h
   | cons c r2=>
    simp only at h
    split at h
    ·cases hx:sD r2 with
     | error e=>rw [hx] at h;cases h
     | ok p=>
      obtain ⟨nm,r3⟩:=p
      rw [hx] at h
      simp only [cI,cC] at h
      rw [←h.1];exact Nat.zero_le _
    ·split at h
     ·cases hx:fW first r2 with
      | error e=>rw [hx] at h;cases h
      | ok p=>
       obtain ⟨x,r3⟩:=p
       rw [hx] at h
       simp only [cI,cC] at h
       have:=Ef hx
       rw [←h.1,←h.2.2]
       show x.2.length≤_
       simp only [List.length_cons]
       omega
     ·split at h
      ·cases hx:pN r2 with
       | error e=>rw [hx] at h;cases h
       | ok p=>
        obtain ⟨t3,r3⟩:=p
        rw [hx] at h
        simp only [cI,cC] at h
        obtain ⟨rfl,_,rfl⟩:=h
        simp only [List.length_cons] at bB ⊢
        unfold pN at hx
        split at hx
        ·cases hy:cZ (r2.drop 2) with
         | error e=>rw [hy] at hx;cases hx
         | ok q=>
          obtain ⟨d,r4⟩:=q
          rw [hy] at hx
          simp only [cI,cC] at hx
          have:=Mi hy
          rw [List.length_drop] at this
          rw [←hx.1,←hx.2]
          show d.length≤_
          omega
        ·split at hx
         ·cases hy:eG (r2.length+1) (r2.drop 7) [] with
          | error e=>rw [hy] at hx;cases hx
          | ok q=>
           obtain ⟨d,r4⟩:=q
           rw [hy] at hx
           simp only [cI,cC] at hx
           have:=yT _ _ _ _ _ hy
           rw [List.length_drop,List.length_nil] at this
           rw [←hx.1,←hx.2]
           show d.length≤_
           omega
         ·split at hx
          ·cases hy:sC (r2.drop 7) with
           | error e=>rw [hy] at hx;cases hx
           | ok q=>
            obtain ⟨d,r4⟩:=q
            rw [hy] at hx
            simp only [cI,cC] at hx
            have:=Mj hy
            rw [List.length_drop] at this
            rw [←hx.2] at bB
            rw [←hx.1,←hx.2]
            show (vU++d).length≤_
            rw [List.length_append,show vU.length=7 from rfl]
            omega
          ·cases r2 with
           | nil=>cases hx
           | cons b1 l1=>
            simp only at hx
            split at hx<;>cases hx
      ·cases hx:fQ ents (c::r2) with
       | error e=>rw [hx] at h;cases h
       | ok p=>
        obtain ⟨nm,ats,em2,r3⟩:=p
        rw [hx] at h
        simp only [cI,cC] at h
        rw [←h.1];exact Nat.zero_le _
theorem EW {raw:Bool} {space:Bs} {s s2:iV} {nm:Bs×Bs} {t:aP} (h:iO raw space s nm=.ok (t,s2)):(t.itok []).text=[]:=by
 unfold iO at h
 split at h
 ·simp only [cI,cC] at h
  rw [←h.1];rfl
 ·cases ho:s.opens with
  | nil=>rw [ho] at h;cases h
  | cons a l=>
   rw [ho] at h
   simp only at h
   split at h
   ·simp only [cI,cC] at h
    rw [←h.1];rfl
   ·cases h
theorem OG {raw:Bool} {space:Bs} {s s2:iV} {nm:Bs×Bs} {ats:List eI} {t:aP} (h:x3 raw space s nm ats=.ok (t,s2)):(t.itok []).text=[]:=by
 unfold x3 at h
 split at h
 ·simp only [cI,cC] at h
  rw [←h.1];rfl
 ·split at h
  ·cases h
  ·split at h
   ·cases h
   ·split at h
    ·cases h
    ·split at h
     ·cases h
     ·simp only [cI,cC] at h
      rw [←h.1];rfl
theorem Mk {o:m7} (hl:pT o.ents) {first:Bool} {s s2:iV} {ts:List aP} (hT:s.rest.length≤2147483647) (h:jQ o first s=.ok (ts,s2)):((ts.map fun t=>(t.itok []).text.length).sum)≤(s.rest.length-s2.rest.length)*2147483647:=by
 unfold jQ at h
 cases hp:nF o.ents first s.rest with
 | error e=>rw [hp] at h;cases h
 | ok x=>
  obtain ⟨t,em,r⟩:=x
  have MD:=WQ hl hT hp
  rw [hp] at h
  simp only at h
  unfold m8 at h
  split at h
  ·rename_i nm ats
   cases ho:x3 o.raw o.space { s with rest:=r } nm ats with
   | error e=>rw [ho] at h;cases h
   | ok y=>
    obtain ⟨t1,s1⟩:=y
    have g:=OG ho
    rw [ho] at h
    simp only at h
    split at h
    ·cases hc:iO o.raw o.space s1 nm with
     | error e=>rw [hc] at h;cases h
     | ok z=>
      obtain ⟨t2,s3⟩:=z
      have k:=EW hc
      rw [hc] at h
      simp only [cI,cC] at h
      rw [←h.1]
      simp [g,k]
    ·simp only [cI,cC] at h
     rw [←h.1]
     simp [g]
  ·rename_i nm
   cases hc:iO o.raw o.space { s with rest:=r } nm with
   | error e=>rw [hc] at h;cases h
   | ok z=>
    obtain ⟨t2,s3⟩:=z
    have k:=EW hc
    rw [hc] at h
    simp only [cI,cC] at h
    rw [←h.1]
    simp [k]
  ·simp only [cI,cC] at h
   rw [←h.1,←h.2]
   simpa using MD
theorem Eg (l:List (aP×Nat)):iF (l.map tD)=(l.map fun q=>(q.1.itok []).text.length).sum:=by
 unfold iF
 rw [List.map_map]
 rfl
theorem OH {o:m7} (hl:pT o.ents) (T:Bs) (hT:T.length≤2147483647):∀ (k:Nat) (s:iV) (out:List (aP×Nat)),s.rest.length≤T.length→iF (out.map tD)≤(T.length-s.rest.length)*2147483647→iF ((qU o T k s out).1.map tD)≤T.length*2147483647
 | 0,s,out,h1,h2=>by
  exact Nat.le_trans h2 (Nat.mul_le_mul_right _ (Nat.sub_le _ _))
 | k+1,s,out,h1,h2=>by
  unfold qU
  split
  ·exact Nat.le_trans h2 (Nat.mul_le_mul_right _ (Nat.sub_le _ _))
  ·cases hr:jQ o (s.rest.length==T.length) s with
   | error e=>
    exact Nat.le_trans h2 (Nat.mul_le_mul_right _ (Nat.sub_le _ _))
   | ok p=>
    obtain ⟨ts,s2⟩:=p
    have h3:=Mk hl (by omega) hr
    have h4:=(IE hr).1
    refine OH hl T hT k s2 _ (by omega) ?_
    rw [Eg] at h2 ⊢
    rw [List.map_append,List.sum_append,List.map_map]
    have e:((fun q:aP×Nat=>(q.1.itok []).text.length) ∘ fun t=>(t,T.length-s2.rest.length))=fun t=>(t.itok []).text.length:=rfl
    rw [e]
    omega
theorem OI {o:m7} (hl:pT o.ents) (T:Bs) (hT:T.length≤2147483647):iF ((gI o T).1.map tD)≤T.length*2147483647:=
 OH hl T hT _ _ [] (Nat.le_refl _) (Nat.zero_le _)
end Go.Proofs.YtdjdjbpnbjdaaaaGreatDoor
namespace Go.Proofs.YtdjdjbpnbjdaaaaGreatDoor
open Go Go.RowKit
theorem WR {o:cU} {s s':St} {nm:Bs×Bs} {ats:List eI} (h:wB o s=.ok (.start nm ats,s')):ats.length≤s.rest.length:=by
 unfold wB at h
 split at h
 ·obtain ⟨_,_,_,_,_,_,h7⟩:=mS h
  rcases h7 with ⟨_,_,h8,_⟩|⟨_,h8,_⟩
  ·cases h8
  ·simp only [aP.wt] at h8;omega
 ·unfold XF at h
  cases hr:fS o s with
  | error e=>rw [hr] at h;cases h
  | ok p=>
   obtain ⟨t1,s1⟩:=p
   rw [hr] at h
   obtain ⟨_,_,_,_,_,_,h7⟩:=mS hr
   have hw:eM o t1 s1=.ok (.start nm ats,s'):=h
   cases t1 with
   | start nm0 ats0=>
    unfold eM at hw
    simp only [cI,cC,aP.start.injEq] at hw
    obtain ⟨⟨_,rfl⟩,_⟩:=hw
    rcases h7 with ⟨_,_,h8,_⟩|⟨_,h8,_⟩
    ·cases h8
    ·simp only [aP.wt] at h8;simp;omega
   | fin nm0=>
    have:=(xV hw).2.2.2.2.1.1 ⟨_,rfl⟩
    obtain ⟨_,h9⟩:=this
    cases h9
   | text d=>unfold eM at hw;simp at hw
   | comment d=>unfold eM at hw;simp at hw
   | dir d=>unfold eM at hw;simp at hw
   | proc a b=>unfold eM at hw;simp at hw
theorem Eh {fold:Bs→Bs→Bool} {o:cU} (ha:o.auto=[]) {s:St} {l:List (aP×St)} {e:EK} (h:o8 fold o s l e):s.next=none→∀ ts∈l,∀ pre,(ts.1.itok pre).attrs.length≤s.rest.length:=by
 induction h with
 | stop _=>intro _ ts B9;cases B9
 | more h1 _ ih=>
  intro hn ts B9 pre
  rename_i s1 t1 s1' l1 e1 h2
  have hs:wB o s1=.ok (t1,s1'):=by rw [←u5 (fold:=fold) ha hn];exact h1
  obtain ⟨_,q2,q3⟩:=XH hs
  rcases List.mem_cons.1 B9 with rfl|B9
  ·cases t1 with
   | start nm ats=>exact WR hs
   | _=>exact Nat.zero_le _
  ·exact Nat.le_trans (ih (q3.trans hn) ts B9 pre) q2.length_le
theorem MT.below {w w':World} {pcA:Option Addr} {pcN pcC:Nat} {pcs:List Int} (h:MT w pcA pcN pcC pcs) (hb:Below w.heap.size w w'):MT w' pcA pcN pcC pcs:=by
 refine ⟨h.n,h.l,fun hp=>?_⟩
 obtain ⟨pb,po,h1,h2,h3⟩:=h.at' hp
 exact ⟨pb,po,h1,Nat.lt_of_lt_of_le h2 hb.size,fun j hj=>by rw [hb.cell (p:=⟨pb,po+j,none⟩) h2];exact h3 j hj⟩
structure a3G (T:Bs) (w:World) (tv:Value) (l:List (aP×St)) (xs:List Value):Prop where
 row:∃ base,w.ownsRow base 55 8 tv l.length xs
 rows:∃ base,cS (qZ w base (fun _=>True) T) l xs
def lX (T:Bs) (l:List (aP×St)):List cH:=l.map fun ts=>ts.1.itok (T.take (T.length-ts.2.rest.length))
structure a3H (w:World) (L:List cH) (out:Value):Prop where
 ex:∃ base base' xs,w.ownsRow base 61 6 out L.length xs∧cS (lB w base' (fun _=>True)) L xs
theorem WS (T:Bs) (w:World) (tv:Value) (l:List (aP×St)) (xs:List Value) (h:a3G T w tv l xs) (bF:l.length≤1000000000) (qG:∀ p∈lX T l,p.attrs.length≤1000000000) :
  Calls Tryz.prog 7 #[tv] w fun en w'=>∃ out,en=.returned out∧Below w.heap.size w w'∧a3H w' (lX T l) out:=by
 obtain ⟨b,hr⟩:=h.row
 obtain ⟨b2,kW⟩:=h.rows
 have vC:(lX T l).length=l.length:=by simp [lX]
 rcases hr.2 with ⟨rfl,h0⟩|⟨g,cap,cur,rfl,hb,hc,hn,E1,gE,Ft⟩
 ·have hl:l=[]:=List.eq_nil_of_length_eq_zero h0
  subst hl
  refine (V2 w).mono ?_
  rintro en w' ⟨rfl,rfl⟩
  exact ⟨_,rfl,Below.refl _ _,⟨⟨0,0,[],⟨rfl,Or.inl ⟨rfl,rfl⟩⟩,.nil⟩⟩⟩
 ·have KQ:aJ w g cur 55:=hc
  have hp:=Kr w (lX T l) (by omega) g 0 cap KQ.lt (fun i p hp=>by
   have hi:∃ ts,l[i]?=some ts∧ts.1.itok (T.take (T.length-ts.2.rest.length))=p:=by
    unfold lX at hp
    rw [List.getElem?_map] at hp
    cases hli:l[i]? with
    | none=>rw [hli] at hp;cases hp
    | some ts=>rw [hli] at hp;exact ⟨ts,rfl,by simpa using hp⟩
   obtain ⟨ts,h1,rfl⟩:=hi
   have a0M:0<l.length:=Nat.lt_of_le_of_lt (Nat.zero_le _) (List.getElem?_eq_some_iff.1 h1).1
   obtain ⟨g',cap',he,_,_,_,_,gR⟩:=lT hr a0M
   simp only [Value.slice.injEq,oY,Addr.mk.injEq] at he
   obtain ⟨⟨rfl,_⟩,_⟩:=he
   rw [Nat.zero_add]
   exact J2 kW gR h1 (qG _ (List.mem_of_getElem? hp)))
  rw [vC] at hp
  refine hp.mono ?_
  rintro en w' ⟨out,xs',rfl,h1,h2,h3⟩
  exact ⟨out,rfl,h1,⟨⟨_,_,_,by rw [vC];exact h2,h3⟩⟩⟩
theorem RM (T:Bs) (l:List (aP×St)):(lX T l).length=l.length:=by simp [lX]
end Go.Proofs.YtdjdjbpnbjdaaaaGreatDoor
