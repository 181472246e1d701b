/- Part of the proof that laws.FnRawTokens returns true for every argument. No conditions. -/
import Derived.Test.YtdjdjbpnbjdaaaaGreatDoorP31
import Derived.Test.YtdjdjbpnbjdaaaaGreatDoorP36
import Derived.Test.YtdjdjbpnbjdaaaaGreatDoorP35
import Derived.Test.YtdjdjbpnbjdaaaaGreatDoorP01
import Derived.Test.YtdjdjbpnbjdaaaaGreatDoorP08
set_option linter.all false
set_option maxHeartbeats 8000000
set_option maxRecDepth 100000
namespace Go.Proofs.YtdjdjbpnbjdaaaaGreatDoor
open Go Go.RowKit
theorem vM (ents:aO):∀ (k k':Nat) (rest out:Bs),rest.length<k→rest.length<k'→dK ents k rest out=dK ents k' rest out
 | 0,_,_,_,h,_=>by omega
 | _+1,0,_,_,_,h=>by omega
 | k+1,k'+1,rest,out,h,h'=>by
  have e:rest=rest.drop 0:=rfl
  by_cases hn:0<rest.length
  ·rw [e]
   by_cases lA:rest.getD 0 0=60
   ·rw [CI ents hn lA,CI ents hn lA]
   ·cases hs:pZ.isPrefixOf (rest.drop 0) with
    | true=>rw [yM ents hn lA hs,yM ents hn lA hs]
    | false=>
     by_cases fZ:rest.getD 0 0=13
     ·rw [CJ ents hn lA hs fZ,CJ ents hn lA hs fZ]
      rw [vM ents k k' (rest.drop (0+2)) (out++[10]) (by rw [List.length_drop];omega) (by rw [List.length_drop];omega),vM ents k k' (rest.drop (0+1)) (out++[10]) (by rw [List.length_drop];omega) (by rw [List.length_drop];omega)]
     ·rw [CK ents hn lA hs fZ,CK ents hn lA hs fZ]
      cases hd:fR ents (rest.drop 0) with
      | error e=>rfl
      | ok p=>
       obtain ⟨t,r2⟩:=p
       have:=pU hd
       exact vM ents k k' r2 (out++t) (by omega) (by omega)
  ·have:rest=[]:=List.eq_nil_of_length_eq_zero (by omega)
   subst this
   rfl
theorem vN:∀ (k k':Nat) (rest out:Bs),rest.length<k→rest.length<k'→eG k rest out=eG k' rest out
 | 0,_,_,_,h,_=>by omega
 | _+1,0,_,_,_,h=>by omega
 | k+1,k'+1,rest,out,h,h'=>by
  have e:rest=rest.drop 0:=rfl
  by_cases hn:0<rest.length
  ·rw [e]
   cases hs:pZ.isPrefixOf (rest.drop 0) with
   | true=>rw [yK hs,yK hs]
   | false=>
    by_cases fZ:rest.getD 0 0=13
    ·rw [CE hn hs fZ,CE hn hs fZ]
     rw [vN k k' (rest.drop (0+2)) (out++[10]) (by rw [List.length_drop];omega) (by rw [List.length_drop];omega),vN k k' (rest.drop (0+1)) (out++[10]) (by rw [List.length_drop];omega) (by rw [List.length_drop];omega)]
    ·rw [CF hn hs fZ,CF hn hs fZ]
     by_cases hz:(aF (rest.drop 0)).2=0∨bU (aF (rest.drop 0)).1=false
     ·rw [if_pos hz,if_pos hz]
     ·rw [if_neg hz,if_neg hz]
      have:(aF (rest.drop 0)).2≠0:=fun hh=>hz (Or.inl hh)
      exact vN k k' _ _ (by rw [List.length_drop];omega) (by rw [List.length_drop];omega)
  ·have:rest=[]:=List.eq_nil_of_length_eq_zero (by omega)
   subst this
   rfl
theorem AI {s T:Bs} {a:Nat} (h:s.isPrefixOf (T.drop a)=true):T.drop a=s++T.drop (a+s.length):=by
 obtain ⟨t,ht⟩:=List.isPrefixOf_iff_prefix.1 h
 rw [←List.drop_drop,←ht]
 simp
theorem Du {o:m7} {first:Bool} {T:Bs} {a:Nat} {opens:List Bs} {bound:List aO} (ha:a<T.length) (h:¬ T.getD a 0=60):jQ o first ⟨T.drop a,opens,bound⟩=oV .text opens bound (dK o.ents (T.length+1) (T.drop a) []):=by
 rw [vM o.ents (T.length+1) ((T.drop a).length+1) (T.drop a) [] (by rw [List.length_drop];omega) (by omega)]
 unfold jQ nF
 simp only
 rw [bT T a ha]
 simp only [if_pos (show T.getD a 0≠60 from h)]
 cases dK o.ents ((T.getD a 0::T.drop (a+1)).length+1) (T.getD a 0::T.drop (a+1)) [] with
 | error e=>rfl
 | ok p=>rfl
theorem Lz {o:m7} {first:Bool} {T:Bs} {a:Nat} {opens:List Bs} {bound:List aO} (h:([60,47]:Bs).isPrefixOf (T.drop a)=true):jQ o first ⟨T.drop a,opens,bound⟩=TJ o.raw o.space opens bound (sD (T.drop (a+2))):=by
 rw [AI h]
 show (match (match sD (T.drop (a+2)) with
  | .error e=>.error e
  | .ok (nm,r3)=>.ok (.fin nm,false,r3):Except SV (aP×Bool×Bs)) with
  | .error e=>.error e
  | .ok (t,em,r)=>m8 o ⟨r,opens,bound⟩ t em:Except SV (List aP×iV))=_
 cases sD (T.drop (a+2)) with
 | error e=>rfl
 | ok p=>rfl
theorem Dv {o:m7} {first:Bool} {T:Bs} {a:Nat} {opens:List Bs} {bound:List aO} (h:([60,63]:Bs).isPrefixOf (T.drop a)=true):jQ o first ⟨T.drop a,opens,bound⟩=TD opens bound (fW first (T.drop (a+2))):=by
 rw [AI h]
 show (match (match fW first (T.drop (a+2)) with
  | .error e=>.error e
  | .ok (x,r3)=>.ok (.proc x.1 x.2,false,r3):Except SV (aP×Bool×Bs)) with
  | .error e=>.error e
  | .ok (t,em,r)=>m8 o ⟨r,opens,bound⟩ t em:Except SV (List aP×iV))=_
 cases fW first (T.drop (a+2)) with
 | error e=>rfl
 | ok p=>rfl
theorem Ma {o:m7} {first:Bool} {T:Bs} {a:Nat} {opens:List Bs} {bound:List aO} (h:([60,33,45,45]:Bs).isPrefixOf (T.drop a)=true):jQ o first ⟨T.drop a,opens,bound⟩=oV .comment opens bound (cZ (T.drop (a+4))):=by
 rw [AI h]
 show (match (match (match cZ (T.drop (a+4)) with
  | .error e=>.error e
  | .ok (d,r2)=>.ok (.comment d,r2):Except SV (aP×Bs)) with
  | .error e=>.error e
  | .ok (t,r3)=>.ok (t,false,r3):Except SV (aP×Bool×Bs)) with
  | .error e=>.error e
  | .ok (t,em,r)=>m8 o ⟨r,opens,bound⟩ t em:Except SV (List aP×iV))=_
 cases cZ (T.drop (a+4)) with
 | error e=>rfl
 | ok p=>rfl
theorem Mb {o:m7} {first:Bool} {T:Bs} {a:Nat} {opens:List Bs} {bound:List aO} (h:([60,33,91,67,68,65,84,65,91]:Bs).isPrefixOf (T.drop a)=true):jQ o first ⟨T.drop a,opens,bound⟩=oV .text opens bound (eG (T.length+1) (T.drop (a+9)) []):=by
 obtain ⟨n,hn⟩:∃ n,n=(([91,67,68,65,84,65,91]:Bs)++T.drop (a+9)).length+1:=⟨_,rfl⟩
 rw [vN (T.length+1) n (T.drop (a+9)) [] (by rw [List.length_drop];omega) (by rw [hn,List.length_append];omega)]
 rw [AI h,hn]
 show (match (match (match eG ((([91,67,68,65,84,65,91]:Bs)++T.drop (a+9)).length+1) (T.drop (a+9)) [] with
  | .error e=>.error e
  | .ok (d,r2)=>.ok (.text d,r2):Except SV (aP×Bs)) with
  | .error e=>.error e
  | .ok (t,r3)=>.ok (t,false,r3):Except SV (aP×Bool×Bs)) with
  | .error e=>.error e
  | .ok (t,em,r)=>m8 o ⟨r,opens,bound⟩ t em:Except SV (List aP×iV))=_
 cases eG ((([91,67,68,65,84,65,91]:Bs)++T.drop (a+9)).length+1) (T.drop (a+9)) [] with
 | error e=>rfl
 | ok p=>rfl
theorem Mc {o:m7} {first:Bool} {T:Bs} {a:Nat} {opens:List Bs} {bound:List aO} (h:([60,33,68,79,67,84,89,80,69]:Bs).isPrefixOf (T.drop a)=true):jQ o first ⟨T.drop a,opens,bound⟩=oV (fun d=>.dir (vU++d)) opens bound (sC (T.drop (a+9))):=by
 rw [AI h]
 show (match (match (match sC (T.drop (a+9)) with
  | .error e=>.error e
  | .ok (d,r2)=>.ok (.dir (vU++d),r2):Except SV (aP×Bs)) with
  | .error e=>.error e
  | .ok (t,r3)=>.ok (t,false,r3):Except SV (aP×Bool×Bs)) with
  | .error e=>.error e
  | .ok (t,em,r)=>m8 o ⟨r,opens,bound⟩ t em:Except SV (List aP×iV))=_
 cases sC (T.drop (a+9)) with
 | error e=>rfl
 | ok p=>rfl
def Qc:Bs→Except SV (aP×Bs)
 | []=>.error .bad
 | b::_=>if b=45∨b=91 then .error .bad else .error .opn
theorem Dw {o:m7} {first:Bool} {T:Bs} {a:Nat} {opens:List Bs} {bound:List aO} (h:([60,33]:Bs).isPrefixOf (T.drop a)=true) (h3:([60,33,45,45]:Bs).isPrefixOf (T.drop a)=false) (h4:([60,33,91,67,68,65,84,65,91]:Bs).isPrefixOf (T.drop a)=false) (h5:([60,33,68,79,67,84,89,80,69]:Bs).isPrefixOf (T.drop a)=false) :
  ∃ k,jQ o first ⟨T.drop a,opens,bound⟩=.error k∧k.num=Cj (T.drop (a+2)):=by
 rw [AI h] at h3 h4 h5 ⊢
 obtain ⟨R,hR⟩:∃ R,R=T.drop (a+2):=⟨_,rfl⟩
 have e9:a+([60,33]:Bs).length=a+2:=rfl
 rw [e9,←hR] at h3 h4 h5 ⊢
 have g3:([45,45]:Bs).isPrefixOf R=false:=h3
 have g4:JB.isPrefixOf R=false:=h4
 have g5:vU.isPrefixOf R=false:=h5
 have hb:pN R=Qc R:=by
  unfold pN
  rw [if_neg (by rw [g3];simp),if_neg (by rw [g4];simp),if_neg (by rw [g5];simp)]
  cases R with
  | nil=>rfl
  | cons b r=>rfl
 have ht:jQ o first ⟨[60,33]++R,opens,bound⟩=(match (match pN R with
  | .error e=>.error e
  | .ok (t,r3)=>.ok (t,false,r3):Except SV (aP×Bool×Bs)) with
  | .error e=>.error e
  | .ok (t,em,r)=>m8 o ⟨r,opens,bound⟩ t em):=rfl
 rw [ht,hb]
 cases R with
 | nil=>exact ⟨.bad,rfl,rfl⟩
 | cons b r=>
  unfold Cj Qc
  simp only
  by_cases hc:b=45∨b=91
  ·rw [if_pos hc,if_pos hc];exact ⟨.bad,rfl,rfl⟩
  ·rw [if_neg hc,if_neg hc];exact ⟨.opn,rfl,rfl⟩
theorem WI {o:m7} {first:Bool} {T:Bs} {a:Nat} {opens:List Bs} {bound:List aO} (ha:a < T.length) (h:T.getD a 0=60) (h1:([60,47]:Bs).isPrefixOf (T.drop a)=false) (h2:([60,63]:Bs).isPrefixOf (T.drop a)=false) (h3:([60,33]:Bs).isPrefixOf (T.drop a)=false):jQ o first ⟨T.drop a,opens,bound⟩=TK o opens bound (fQ o.ents (T.drop (a + 1))):=by
  rw [bT T a ha,h] at h1 h2 h3 ⊢
  cases hr:T.drop (a + 1) with
  | nil=>rfl
  | cons c r=>
    rw [hr] at h1 h2 h3
    have g:∀ q:UInt8,([60,q]:Bs).isPrefixOf (60 :: c :: r)=false → ¬ c=q:=by
      intro q hq he
      rw [he] at hq
      have:([60,q]:Bs).isPrefixOf (60 :: q :: r)=(q == q):=by
        show ((60:UInt8) == 60 && (q == q && List.isPrefixOf [] r))=_
        cases (q == q) <;> rfl
      rw [this] at hq
      simp at hq
    have n1:=g 47 h1
    have n2:=g 63 h2
    have n3:=g 33 h3
    have ht : jQ o first ⟨60 :: c :: r, opens, bound⟩ = (match (if c = 47 then (match sD r with
          | .error e=>.error e
          | .ok (nm,r3)=>.ok (.fin nm,false,r3))
        else if c=63 then (match fW first r with
          | .error e=>.error e
          | .ok (x,r3)=>.ok (.proc x.1 x.2,false,r3))
        else if c=33 then (match pN r with
          | .error e=>.error e
          | .ok (t,r3)=>.ok (t,false,r3))
        else match fQ o.ents (c :: r) with
          | .error e=>.error e
          | .ok (nm,ats,em,r3)=>.ok (.start nm ats,em,r3):Except SV (aP × Bool × Bs)) with
      | .error e=>.error e
      | .ok (t,em,r)=>m8 o ⟨r,opens,bound⟩ t em):=rfl
    rw [ht,if_neg n1,if_neg n2,if_neg n3]
    cases fQ o.ents (c :: r) with
    | error e=>rfl
    | ok p=>rfl
theorem Dx (x:PX) (hT:x.T.length≤100000000) (base:Nat) (o:m7) (KU:pT o.ents) (Ds:Lo x base) (WY:Dd x base) (QI:o.raw=x.raw) (Wj:o.space=x.space) (w:World) (c:PC) (opens:List Bs) (bound:List aO) (out:List cH) (h:hY x base w c opens bound out) (bF:out.length≤499999999) (BG:opens.length≤499999999) (eZ:bound.length=opens.length) (ha:c.at'<x.T.length) (hE:sS x base o.ents w) :
  Calls Tryz.prog 10 #[oM x] w (gW x base out w (jQ o (c.at'==0) ⟨x.T.drop c.at',opens,bound⟩)):=by
 have Wt:x.T.length≤1000000000:=by omega
 have hc:=h.blk.cell
 have hf:=h.blk.frozen
 have H:=Lh h
 have HT:=Lh hT
 have RJ:=Lh Wt
 have HE:=Lh hE
 have xG:=Lh KU
 have cL:=Lh bF
 have xD:=Lh BG
 have o5:=Lh eZ
 have HOO:=Lh Ds
 have Wk:=Lh WY
 have Yv:=Lh QI
 have Yw:=Lh Wj
 have HA:=Lh ha
 have Gj:=Lh (show ∀ w',w'.os=w.os→w'.tape=w.tape→w'.output=w.output→w'.heap=w.heap→aK (fun k=>k=x.p) w w' from fun w' h1 h2 h3 h4=>eF (aK.refl _ w) h1 h2 h3 h4)
 have KI:=Lh (fun (w':World) (hm:aK (fun k=>k=x.p) w w')=>aK.below (Below.refl base w) h.size hm (fun i hi=>by rw [hi];exact h.pb))
 have WJ:=Lh (fun (s:Bs) (hs:s.length≤1000000000) (w':World) (h:aU x w' c)=>zI x Wt w' c h (Nat.le_of_lt ha) s hs)
 obtain ⟨b,hb⟩:∃ b,b=x.T.getD c.at' 0:=⟨_,rfl⟩
 have ix:∀ h,(⟨x.T.toArray⟩:ByteArray)[c.at']'h=b:=by rw [hb];exact jG x.T c.at' ha
 have t0:(0:Int)≤(c.at':Int):=by omega
 have t1:(c.at':Int)<(x.T.length:Int):=by omega
 have pO:=Lh hb
 clear h hT Wt hE KU bF BG eZ Ds WY ha QI Wj hb
 refine eJ 57 Tryz.func10 [_] fun f=>?_
 simp only [aE]
 by_cases lA:b=60
 rotate_left
 ·have Cw:((b.toNat:Int) != 60)=true:=Cv lA
  have HR:=Lh (Du (o:=o) (first:=c.at'==0) (opens:=opens) (bound:=bound) HA.out (by rw [←pO.out];exact lA))
  have P6:=Lh (fun (w':World) (h1:aU x w' c) (h2:aK (fun k=>k=x.p) w w')=>Ll x RJ.out base o.ents xG.out w' c opens bound out (H.out.own h1 h2 rfl rfl rfl) (by have:=cL.out;omega) (Nat.le_of_lt HA.out) (HE.out.below (KI.out w' h2)))
  clear lA
  (refine vg ?_;(repeat with_reducible intro K hK))
  (refine aI [0,0,0,1,0,0,0,1,0,0,0] [0,1,2,3,4,5,6,7,8,9,10] (by kernel_rfl) (by kernel_rfl) ?_;refine vP ?_;repeat with_reducible intro nq)
  ((repeat revert K);refine vg ?_;(repeat with_reducible intro K hK))
  refine (P6.out _ (by exact H.out.blk) (by exact Gj.out _ rfl rfl rfl rfl)).mono ?_
  rintro e9 w9 h9
  have h5:gW x base out w (jQ o (c.at'==0) ⟨x.T.drop c.at',opens,bound⟩) e9 w9:=by rw [HR.out];exact gW.base (KI.out (w.drewN _) (Gj.out (w.drewN _) rfl rfl rfl rfl)) h9
  obtain ⟨b9,rfl⟩:=gW.bool h9
  have H5:=Lh h5
  clear h9 h5
  ((repeat revert K);refine vS ?_;intro K hK)
  (refine cW ?_)
  exact H5.out
 have Cw:((b.toNat:Int) != 60)=false:=by rw [lA];rfl
 have WC:=Lh (show x.T.getD c.at' 0=60 by rw [←pO.out];exact lA)
 clear lA
 (refine vg ?_;(repeat with_reducible intro K hK))
 (refine aI [0,0,0,1,0,0,0,1,0,0,0] [0,1,2,3,4,5,6,7,8,9,10] (by kernel_rfl) (by kernel_rfl) ?_;refine vP ?_;repeat with_reducible intro nq)
 clear hc hf ix Cw t0 t1
 ((repeat revert K);refine vg ?_;(repeat with_reducible intro K hK))
 refine (WJ.out [60,47] (by decide) _ (by exact H.out.blk)).mono ?_
 rintro eh w1 ⟨rfl,lW,oX⟩
 have oJ:=Lh (show aK (fun k=>k=x.p) w w1 from (Gj.out (w.drewN _) rfl rfl rfl rfl).trans oX (fun _ _ h=>h))
 clear oX
 cases hq:([60,47]:Bs).isPrefixOf (x.T.drop c.at') with
 | true=>
  rw [hq,if_pos rfl] at lW
  have HP:=Lh (show aU x w1 { c with at':=c.at'+2 } from lW)
  have HL:=Lh (show c.at'+2≤x.T.length from qE hq (Nat.le_of_lt HA.out))
  have HR:=Lh (show jQ o (c.at'==0) ⟨x.T.drop c.at',opens,bound⟩=TJ x.raw x.space opens bound (sD (x.T.drop (c.at'+2))) by rw [←Yv.out,←Yw.out];exact Lz hq)
  have HC:=Lh (WE x RJ.out base Wk.out w1 { c with at':=c.at'+2 } opens bound out (H.out.own HP.out oJ.out rfl rfl rfl) (by have:=cL.out;omega) (by have:=xD.out;omega) o5.out HL.out)
  clear lW hq
  rw [show (true:Bool)=true from rfl]
  ((repeat revert K);refine vS ?_;(repeat with_reducible intro K hK))
  refine HC.out.mono ?_
  rintro e9 w9 h9
  have h5:gW x base out w (jQ o (c.at'==0) ⟨x.T.drop c.at',opens,bound⟩) e9 w9:=by rw [HR.out];exact gW.base (KI.out _ oJ.out) h9
  obtain ⟨b9,rfl⟩:=gW.bool h9
  have H5:=Lh h5
  clear h9 h5
  ((repeat revert K);refine vS ?_;intro K hK)
  (refine cW ?_)
  exact H5.out
 | false=>
  rw [hq,if_neg (by simp)] at lW
  have KO:=Lh (show aU x w1 c from lW)
  have HQ1:=Lh hq
  clear lW hq
  ((repeat revert K);refine vS ?_;(repeat with_reducible intro K hK))
  refine (WJ.out [60,63] (by decide) _ KO.out).mono ?_
  rintro eh w2 ⟨rfl,lW,oX⟩
  have wS:=Lh (oJ.out.trans oX (fun _ _ h=>h))
  clear oX
  cases hq:([60,63]:Bs).isPrefixOf (x.T.drop c.at') with
  | true=>
   rw [hq,if_pos rfl] at lW
   have HP:=Lh (show aU x w2 { c with at':=c.at'+2 } from lW)
   have HL:=Lh (show c.at'+2≤x.T.length from qE hq (Nat.le_of_lt HA.out))
   have HR:=Lh (show jQ o (c.at'==0) ⟨x.T.drop c.at',opens,bound⟩=TD opens bound (fW (c.at'+2==2) (x.T.drop (c.at'+2))) by rw [show (c.at'+2==2)=(c.at'==0) by rw [Bool.eq_iff_iff];simp];exact Dv hq)
   have HC:=Lh (Cp x RJ.out base w2 { c with at':=c.at'+2 } opens bound out (H.out.own HP.out wS.out rfl rfl rfl) (by have:=cL.out;omega) HL.out)
   clear lW hq
   rw [show (true:Bool)=true from rfl]
   ((repeat revert K);refine vS ?_;(repeat with_reducible intro K hK))
   refine HC.out.mono ?_
   rintro e9 w9 h9
   have h5:gW x base out w (jQ o (c.at'==0) ⟨x.T.drop c.at',opens,bound⟩) e9 w9:=by rw [HR.out];exact gW.base (KI.out _ wS.out) h9
   obtain ⟨b9,rfl⟩:=gW.bool h9
   have H5:=Lh h5
   clear h9 h5
   ((repeat revert K);refine vS ?_;intro K hK)
   (refine cW ?_)
   exact H5.out
  | false=>
   rw [hq,if_neg (by simp)] at lW
   have F7:=Lh (show aU x w2 c from lW)
   have R6:=Lh hq
   clear lW hq
   ((repeat revert K);refine vS ?_;(repeat with_reducible intro K hK))
   refine (WJ.out [60,33,45,45] (by decide) _ F7.out).mono ?_
   rintro eh w3 ⟨rfl,lW,oX⟩
   have fM:=Lh (wS.out.trans oX (fun _ _ h=>h))
   clear oX
   cases hq:([60,33,45,45]:Bs).isPrefixOf (x.T.drop c.at') with
   | true=>
    rw [hq,if_pos rfl] at lW
    have HP:=Lh (show aU x w3 { c with at':=c.at'+4 } from lW)
    have HL:=Lh (show c.at'+4≤x.T.length from qE hq (Nat.le_of_lt HA.out))
    have HR:=Lh (show jQ o (c.at'==0) ⟨x.T.drop c.at',opens,bound⟩=oV .comment opens bound (cZ (x.T.drop (c.at'+4))) from Ma hq)
    have HC:=Lh (Q2 x RJ.out base w3 { c with at':=c.at'+4 } opens bound out (H.out.own HP.out fM.out rfl rfl rfl) (by have:=cL.out;omega) HL.out)
    clear lW hq
    rw [show (true:Bool)=true from rfl]
    ((repeat revert K);refine vS ?_;(repeat with_reducible intro K hK))
    refine HC.out.mono ?_
    rintro e9 w9 h9
    have h5:gW x base out w (jQ o (c.at'==0) ⟨x.T.drop c.at',opens,bound⟩) e9 w9:=by rw [HR.out];exact gW.base (KI.out _ fM.out) h9
    obtain ⟨b9,rfl⟩:=gW.bool h9
    have H5:=Lh h5
    clear h9 h5
    ((repeat revert K);refine vS ?_;intro K hK)
    (refine cW ?_)
    exact H5.out
   | false=>
    rw [hq,if_neg (by simp)] at lW
    have eP:=Lh (show aU x w3 c from lW)
    have HQ3:=Lh hq
    clear lW hq
    ((repeat revert K);refine vS ?_;(repeat with_reducible intro K hK))
    refine (WJ.out [60,33,91,67,68,65,84,65,91] (by decide) _ eP.out).mono ?_
    rintro eh w4 ⟨rfl,lW,oX⟩
    have o6:=Lh (fM.out.trans oX (fun _ _ h=>h))
    clear oX
    cases hq:([60,33,91,67,68,65,84,65,91]:Bs).isPrefixOf (x.T.drop c.at') with
    | true=>
     rw [hq,if_pos rfl] at lW
     have HP:=Lh (show aU x w4 { c with at':=c.at'+9 } from lW)
     have HL:=Lh (show c.at'+9≤x.T.length from qE hq (Nat.le_of_lt HA.out))
     have HR:=Lh (show jQ o (c.at'==0) ⟨x.T.drop c.at',opens,bound⟩=oV .text opens bound (eG (x.T.length+1) (x.T.drop (c.at'+9)) []) from Mb hq)
     have HC:=Lh (Q4 x RJ.out base w4 { c with at':=c.at'+9 } opens bound out (H.out.own HP.out o6.out rfl rfl rfl) (by have:=cL.out;omega) HL.out)
     clear lW hq
     rw [show (true:Bool)=true from rfl]
     ((repeat revert K);refine vS ?_;(repeat with_reducible intro K hK))
     refine HC.out.mono ?_
     rintro e9 w9 h9
     have h5:gW x base out w (jQ o (c.at'==0) ⟨x.T.drop c.at',opens,bound⟩) e9 w9:=by rw [HR.out];exact gW.base (KI.out _ o6.out) h9
     obtain ⟨b9,rfl⟩:=gW.bool h9
     have H5:=Lh h5
     clear h9 h5
     ((repeat revert K);refine vS ?_;intro K hK)
     (refine cW ?_)
     exact H5.out
    | false=>
     rw [hq,if_neg (by simp)] at lW
     have xQ:=Lh (show aU x w4 c from lW)
     have HQ4:=Lh hq
     clear lW hq
     ((repeat revert K);refine vS ?_;(repeat with_reducible intro K hK))
     refine (WJ.out [60,33,68,79,67,84,89,80,69] (by decide) _ xQ.out).mono ?_
     rintro eh w5 ⟨rfl,lW,oX⟩
     have pY:=Lh (o6.out.trans oX (fun _ _ h=>h))
     clear oX
     cases hq:([60,33,68,79,67,84,89,80,69]:Bs).isPrefixOf (x.T.drop c.at') with
     | true=>
      rw [hq,if_pos rfl] at lW
      have HP:=Lh (show aU x w5 { c with at':=c.at'+9 } from lW)
      have HL:=Lh (show c.at'+9≤x.T.length from qE hq (Nat.le_of_lt HA.out))
      have HR:=Lh (show jQ o (c.at'==0) ⟨x.T.drop c.at',opens,bound⟩=oV (fun d=>.dir (vU++d)) opens bound (sC (x.T.drop (c.at'+9))) from Mc hq)
      have HC:=Lh (RK x RJ.out base w5 { c with at':=c.at'+9 } opens bound out (H.out.own HP.out pY.out rfl rfl rfl) (by have:=cL.out;omega) HL.out)
      clear lW hq
      rw [show (true:Bool)=true from rfl]
      ((repeat revert K);refine vS ?_;(repeat with_reducible intro K hK))
      refine HC.out.mono ?_
      rintro e9 w9 h9
      have h5:gW x base out w (jQ o (c.at'==0) ⟨x.T.drop c.at',opens,bound⟩) e9 w9:=by rw [HR.out];exact gW.base (KI.out _ pY.out) h9
      obtain ⟨b9,rfl⟩:=gW.bool h9
      have H5:=Lh h5
      clear h9 h5
      ((repeat revert K);refine vS ?_;intro K hK)
      (refine cW ?_)
      exact H5.out
     | false=>
      rw [hq,if_neg (by simp)] at lW
      have rL:=Lh (show aU x w5 c from lW)
      have HQ5:=Lh hq
      clear lW hq
      ((repeat revert K);refine vS ?_;(repeat with_reducible intro K hK))
      refine (WJ.out [60,33] (by decide) _ rL.out).mono ?_
      rintro eh w6 ⟨rfl,lW,oX⟩
      have jU:=Lh (pY.out.trans oX (fun _ _ h=>h))
      clear oX
      cases hq:([60,33]:Bs).isPrefixOf (x.T.drop c.at') with
      | true=>
       rw [hq,if_pos rfl] at lW
       have HP:=Lh (show aU x w6 { c with at':=c.at'+2 } from lW)
       obtain ⟨kk,xO,OR⟩:=Dw (o:=o) (first:=c.at'==0) (opens:=opens) (bound:=bound) hq HQ3.out HQ4.out HQ5.out
       have HR:=Lh xO
       have HBG:=Lh (Ck x w6 { c with at':=c.at'+2 } HP.out)
       have HK:=Lh OR
       clear lW hq xO OR
       ((repeat revert K);refine vS ?_;(repeat with_reducible intro K hK))
       refine HBG.out.mono ?_
       rintro e7 w7 ⟨rfl,k7,rfl⟩
       rw [show ({ c with at':=c.at'+2 }:PC).at'=c.at'+2 from rfl,←HK.out]
       have HF:=Lh (mO x w (w6.drewN k7) { c with at':=c.at'+2 } HP.out (jU.out.drewN k7) kk.num)
       ((repeat revert K);refine vS ?_;(repeat with_reducible intro K hK))
       refine HF.out.mono ?_
       rintro e8 w8 ⟨rfl,TA,kZ⟩
       have OW:=Lh TA
       have GY:=Lh kZ
       clear TA kZ
       ((repeat revert K);refine vS ?_;intro K hK)
       (refine cW ?_)
       exact gW.err (w1:=w) (k:=kk) H.out OW.out GY.out HR.out
      | false=>
       rw [hq,if_neg (by simp)] at lW
       have jS:=Lh (show aU x w6 c from lW)
       have HR:=Lh (WI (o:=o) (first:=c.at'==0) (opens:=opens) (bound:=bound) HA.out WC.out HQ1.out R6.out hq)
       have w1':IntKind.i64.wrap ((c.at':Int)+1)=((c.at'+1:Nat):Int):=by rw [IntKind.wrap_i64];have:=HT.out;have:=HA.out;omega
       obtain ⟨w7,hw7⟩:∃ w7,w7=w6.setCell ⟨x.p,1,none⟩ (.int .i64 ((c.at':Int)+1)):=⟨_,rfl⟩
       have sU:aU x w7 { c with at':=c.at'+1 }:=by rw [hw7];exact aJ.set (w:=w6) (cs:=gV x c) jS.out 1 _
       have fU:aK (fun k=>k=x.p) w w7:=by rw [hw7];exact aK.setCell (S:=fun k=>k=x.p) jU.out (p:=⟨x.p,1,none⟩) (Or.inl rfl) _
       have HS:=Lh (Dr x HT.out base o.ents xG.out HOO.out o Yv.out Yw.out w7 { c with at':=c.at'+1 } opens bound out (H.out.own sU fU rfl rfl rfl) cL.out xD.out o5.out HA.out (HE.out.below (KI.out w7 fU)))
       have KE:=Lh fU
       have hc:=jS.out.cell
       have hf:=jS.out.frozen
       clear lW hq sU fU
       go_simp
       ((repeat revert K);refine vT 16 ?_)
       rw [←hw7]
       clear hw7 hc hf
       (refine vg ?_;(repeat with_reducible intro K hK))
       refine HS.out.mono ?_
       rintro e9 w9 h9
       have h5:gW x base out w (jQ o (c.at'==0) ⟨x.T.drop c.at',opens,bound⟩) e9 w9:=by rw [HR.out];exact gW.base (KI.out _ KE.out) h9
       obtain ⟨b9,rfl⟩:=gW.bool h9
       have H5:=Lh h5
       clear h9 h5
       ((repeat revert K);refine vS ?_)
       (refine cW ?_)
       exact H5.out
end Go.Proofs.YtdjdjbpnbjdaaaaGreatDoor
namespace Go.Proofs.YtdjdjbpnbjdaaaaGreatDoor
open Go
theorem TO (o:cU) {ents:aO} (hE:lV o.ents ents) {rest r:Bs} {a:eI} (h:eB ents rest=.ok (a,r)):gY o rest=.ok (a,r):=by
 unfold eB at h
 cases hn:iB rest with
 | error e=>rw [hn] at h;cases h
 | ok x=>
  obtain ⟨nm,r1⟩:=x
  rw [hn] at h
  obtain ⟨n1,_,_,_⟩:=sL (f:=o.fails) hn
  cases hs:aM r1 with
  | nil=>simp only [hs] at h;cases h
  | cons b r2=>
   simp only [hs] at h
   have mF:r1≠[]:=fun hh=>by rw [hh] at hs;cases hs
   unfold gY
   rw [n1 mF]
   simp only [hs]
   split at h
   ·rename_i hb
    rw [if_pos hb]
    cases gS:aM r2 with
    | nil=>rw [gS] at h;cases h
    | cons q r3=>
     rw [gS] at h
     simp only at h
     split at h
     ·rename_i hq
      cases hv:t7 ents q (r3.length+1) r3 [] with
      | error e=>rw [hv] at h;cases h
      | ok y=>
       obtain ⟨v,r4⟩:=y
       rw [hv] at h
       simp only [cI,cC] at h
       obtain ⟨rfl,rfl⟩:=h
       have h9:=Pw o hE q hq _ _ 0 0 [] v r4 hv jF
       unfold dX
       simp only
       rw [if_pos hq,h9]
     ·cases h
   ·cases h
theorem Dy (o:cU) {ents:aO} (hE:lV o.ents ents) (dA:o.strict=true) (cB:sV o) {rest r:Bs} {a:eI} (h:eB ents rest=.error .bad) (hl:gY o rest=.ok (a,r)):r=[]:=by
 unfold eB at h
 cases hn:iB rest with
 | error e=>
  rw [hn] at h
  simp only [Except.error.injEq] at h
  subst h
  unfold gY at hl
  cases hx:cE o.fails rest with
  | error e=>rw [hx] at hl;cases hl
  | ok x=>exact absurd hx (ER hn x)
 | ok x=>
  obtain ⟨nm,r1⟩:=x
  rw [hn] at h
  obtain ⟨n1,n2,_,_⟩:=sL (f:=o.fails) hn
  unfold gY at hl
  by_cases mF:r1=[]
  ·rw [n2 mF] at hl;cases hl
  ·rw [n1 mF] at hl
   cases hs:aM r1 with
   | nil=>simp only [hs] at hl;cases hl
   | cons b r2=>
    simp only [hs] at h hl
    split at h
    ·rename_i hb
     rw [if_pos hb] at hl
     cases gS:aM r2 with
     | nil=>rw [gS] at hl;simp [dX] at hl
     | cons q r3=>
      rw [gS] at h hl
      simp only at h
      unfold dX at hl
      simp only at hl
      split at h
      ·rename_i hq
       rw [if_pos hq] at hl
       cases hv:t7 ents q (r3.length+1) r3 [] with
       | ok y=>rw [hv] at h;cases h
       | error e=>
        rw [hv] at h
        simp only [Except.error.injEq] at h
        subst h
        cases ht:aX o (some q) false r3 0 0 [] with
        | error e=>rw [ht] at hl;cases hl
        | ok z=>
         obtain ⟨v,r4⟩:=z
         rw [ht] at hl
         simp only [cI,cC] at hl
         obtain ⟨_,rfl⟩:=hl
         exact Di o hE dA cB q hq _ _ 0 0 [] v r4 hv jF ht
      ·rename_i hq
       rw [if_neg hq,if_pos dA] at hl
       cases hl
    ·rename_i hb
     rw [if_neg hb,if_pos dA] at hl
     cases hl
theorem N8 (o:cU) {ents:aO} (hE:lV o.ents ents):∀ (k:Nat) (rest:Bs) (acc ats:List eI) (em:Bool) (r:Bs),dL ents k rest acc=.ok (ats,em,r)→dD o k rest acc=.ok (ats,em,r)
 | 0,_,_,_,_,_,h=>by unfold dL at h;cases h
 | k+1,rest,acc,ats,em,r,h=>by
  unfold dL at h
  unfold dD
  cases hs:aM rest with
  | nil=>simp only [hs] at h;cases h
  | cons b t=>
   simp only [hs] at h ⊢
   split at h
   ·rename_i hb
    subst hb
    simp only [cI,cC] at h
    obtain ⟨rfl,rfl,rfl⟩:=h
    rw [if_neg (by decide),if_pos rfl]
   ·rename_i Dj
    split at h
    ·rename_i ST
     rw [if_pos ST]
     cases t with
     | nil=>cases h
     | cons c t2=>
      simp only at h ⊢
      split at h
      ·rename_i hc
       rw [if_pos hc]
       simp only [cI,cC] at h ⊢
       exact h
      ·cases h
    ·rename_i ST
     rw [if_neg ST,if_neg Dj]
     cases ha:eB ents (b::t) with
     | error e=>rw [ha] at h;cases h
     | ok x=>
      obtain ⟨a,r2⟩:=x
      rw [ha] at h
      rw [TO o hE ha]
      simp only at h ⊢
      split at h
      ·cases h
      ·split at h
       ·cases h
       ·exact N8 o hE k r2 _ ats em r h
theorem IA (o:cU) {ents:aO} (hE:lV o.ents ents) (dA:o.strict=true) (cB:sV o):∀ (k:Nat) (rest:Bs) (acc:List eI),dL ents k rest acc=.error .bad→∀ x,dD o k rest acc≠.ok x
 | 0,_,_,h=>by unfold dL at h;cases h
 | k+1,rest,acc,h=>by
  intro x
  unfold dL at h
  unfold dD
  cases hs:aM rest with
  | nil=>simp
  | cons b t=>
   simp only [hs] at h ⊢
   split at h
   ·cases h
   ·rename_i Dj
    split at h
    ·rename_i ST
     rw [if_pos ST]
     cases t with
     | nil=>simp
     | cons c t2=>
      simp only at h ⊢
      split at h
      ·cases h
      ·rename_i hc;rw [if_neg hc];simp
    ·rename_i ST
     rw [if_neg ST,if_neg Dj]
     cases ha:eB ents (b::t) with
     | error e=>
      rw [ha] at h
      simp only [Except.error.injEq] at h
      subst h
      cases hl:gY o (b::t) with
      | error e=>simp
      | ok y=>
       obtain ⟨a,r2⟩:=y
       have:=Dy o hE dA cB ha hl
       subst this
       simp only
       cases k with
       | zero=>unfold dD;simp
       | succ k=>unfold dD;simp [aM]
     | ok y=>
      obtain ⟨a,r2⟩:=y
      rw [ha] at h
      rw [TO o hE ha]
      simp only at h ⊢
      split at h
      ·cases h
      ·split at h
       ·cases h
       ·exact IA o hE dA cB k r2 _ h x
abbrev BL {α:Type} (f:Bool) (r:Except EK α):Prop:=∀ e,r=.error e→e=.syn∨e=bW f
theorem aT {α:Type} (f:Bool):BL f (.error (bW f):Except EK α):=fun e h=>Or.inr (by simpa using h.symm)
theorem aZ {α:Type} {f:Bool}:BL f (.error .syn:Except EK α):=fun e h=>Or.inl (by simpa using h.symm)
theorem bN {α:Type} {f:Bool} (a:α):BL f (.ok a:Except EK α):=fun e h=>by cases h
theorem IB (f bQ:Bool) (p r:Bs):BL f (dY f bQ p r):=by
 unfold dY
 split
 ·(first|exact aT _|exact aZ|exact bN _)
 ·split<;>(first|exact aT _|exact aZ|exact bN _)
theorem Md (f:Bool) (en:Option (Bs→Option Bs)) (r:Bs):BL f (iX f en r):=by
 unfold iX
 split
 ·(first|exact aT _|exact aZ|exact bN _)
 ·split
  ·split
   ·(first|exact aT _|exact aZ|exact bN _)
   ·split
    ·split
     ·(first|exact aT _|exact aZ|exact bN _)
     ·exact IB _ _ _ _
    ·exact IB _ _ _ _
  ·split
   ·(first|exact aT _|exact aZ|exact bN _)
   ·split<;>(first|exact aT _|exact aZ|exact bN _)
theorem ET (o:cU) (q:Option UInt8) (cd:Bool):∀ (n:Nat) (rest:Bs),rest.length≤n→∀ (b0 b1:UInt8) (buf:Bs),BL o.fails (aX o q cd rest b0 b1 buf):=by
 intro n
 induction n with
 | zero=>
  intro rest hn b0 b1 buf
  have:rest=[]:=List.eq_nil_of_length_eq_zero (by omega)
  subst this
  unfold aX
  split
  ·(first|exact aT _|exact aZ|exact bN _)
  ·split<;>(first|exact aT _|exact aZ|exact bN _)
 | succ n ih=>
  intro rest hn b0 b1 buf
  cases rest with
  | nil=>
   unfold aX
   split
   ·(first|exact aT _|exact aZ|exact bN _)
   ·split<;>(first|exact aT _|exact aZ|exact bN _)
  | cons b t=>
   have ht:t.length≤n:=by simp at hn;omega
   unfold aX
   split
   ·split
    ·split<;>(first|exact aT _|exact aZ|exact bN _)
    ·(first|exact aT _|exact aZ|exact bN _)
   ·split
    ·split
     ·split<;>(first|exact aT _|exact aZ|exact bN _)
     ·(first|exact aT _|exact aZ|exact bN _)
    ·split
     ·split<;>(first|exact aT _|exact aZ|exact bN _)
     ·split
      ·split
       ·rename_i e he
        intro e' h
        simp only [Except.error.injEq] at h
        subst h
        exact Md _ _ _ _ he
       ·rename_i he
        have:=gX he
        exact ih _ (by omega) _ _ _
       ·rename_i he
        have:=gX he
        split
        ·(first|exact aT _|exact aZ|exact bN _)
        ·exact ih _ (by omega) _ _ _
      ·exact ih _ ht _ _ _
theorem N9 (f:Bool) (r:Bs):BL f (eX f r):=by
 unfold eX
 split
 ·(first|exact aT _|exact aZ|exact bN _)
 ·split
  ·(first|exact aT _|exact aZ|exact bN _)
  ·split<;>(first|exact aT _|exact aZ|exact bN _)
theorem nI {α β:Type} {f:Bool} {r:Except EK α} {e:EK} (h:BL f r) (he:r=.error e):BL f (.error e:Except EK β):=by
 intro e' hh
 simp only [Except.error.injEq] at hh
 subst hh
 exact h _ he
theorem xF (f:Bool) (r:Bs):BL f (cE f r):=by
 unfold cE
 split
 ·rename_i he;exact nI (N9 _ _) he
 ·split<;>(first|exact aT _|exact aZ|exact bN _)
theorem OA (o:cU) (r:Bs):BL o.fails (dX o r):=by
 unfold dX
 split
 ·(first|exact aT _|exact aZ|exact bN _)
 ·split
  ·exact ET _ _ _ _ _ (Nat.le_refl _) _ _ _
  ·split
   ·(first|exact aT _|exact aZ|exact bN _)
   ·split<;>(first|exact aT _|exact aZ|exact bN _)
theorem Dz (o:cU) (r:Bs):BL o.fails (gY o r):=by
 unfold gY
 split
 ·rename_i he;exact nI (xF _ _) he
 ·split
  ·(first|exact aT _|exact aZ|exact bN _)
  ·split
   ·split
    ·rename_i he;exact nI (OA _ _) he
    ·(first|exact aT _|exact aZ|exact bN _)
   ·split<;>(first|exact aT _|exact aZ|exact bN _)
theorem IC (o:cU):∀ (k:Nat) (rest:Bs) (acc:List eI),rest.length<k→BL o.fails (dD o k rest acc)
 | 0,_,_,h=>by omega
 | k+1,rest,acc,h=>by
  unfold dD
  split
  ·(first|exact aT _|exact aZ|exact bN _)
  ·rename_i b r2 hs
   split
   ·split
    ·(first|exact aT _|exact aZ|exact bN _)
    ·split<;>(first|exact aT _|exact aZ|exact bN _)
   ·split
    ·(first|exact aT _|exact aZ|exact bN _)
    ·split
     ·rename_i he;exact nI (Dz _ _) he
     ·rename_i a r5 he
      have h1:=LY he
      have h2:(aM rest).length≤rest.length:=(eO rest).length_le
      rw [hs] at h2
      exact IC o k r5 _ (by omega)
theorem WK (o:cU) (r:Bs):BL o.fails (fI o r):=by
 unfold fI
 split
 ·rename_i he;exact nI (xF _ _) he
 ·split
  ·rename_i he;exact nI (IC _ _ _ _ (Nat.lt_succ_self _)) he
  ·(first|exact aT _|exact aZ|exact bN _)
theorem Me (o:cU) (r:Bs):BL o.fails (o7 o r):=by
 unfold o7
 split
 ·rename_i he;exact nI (xF _ _) he
 ·split
  ·(first|exact aT _|exact aZ|exact bN _)
  ·split<;>(first|exact aT _|exact aZ|exact bN _)
theorem BM (f:Bool):∀ (r:Bs) (b0 b1:UInt8) (buf:Bs),BL f (bY f r b0 b1 buf)
 | [],_,_,_=>by unfold bY;(first|exact aT _|exact aZ|exact bN _)
 | b::r,b0,b1,buf=>by
  unfold bY
  split
  ·split<;>(first|exact aT _|exact aZ|exact bN _)
  ·exact BM f r _ _ _
theorem BN (f:Bool):∀ (r:Bs) (b0 b1:UInt8),BL f (cR f r b0 b1)
 | [],_,_=>by unfold cR;(first|exact aT _|exact aZ|exact bN _)
 | b::r,b0,b1=>by
  unfold cR
  split
  ·(first|exact aT _|exact aZ|exact bN _)
  ·exact BN f r _ _
theorem Wy (f:Bool):∀ (n:Nat),(∀ (r:Bs),r.length≤n→∀ (b inq:UInt8) (d:Int) (buf:Bs),BL f (iD f b r inq d buf))∧(∀ (r:Bs),r.length≤n→∀ (inq:UInt8) (d:Int) (buf:Bs),BL f (fG f r inq d buf)):=by
 intro n
 induction n with
 | zero=>
  have hl:∀ (r:Bs),r.length≤0→∀ (inq:UInt8) (d:Int) (buf:Bs),BL f (fG f r inq d buf):=by
   intro r hr inq d buf
   have:r=[]:=List.eq_nil_of_length_eq_zero (by omega)
   subst this
   unfold fG;(first|exact aT _|exact aZ|exact bN _)
  refine ⟨fun r hr b inq d buf=>?_,hl⟩
  have:r=[]:=List.eq_nil_of_length_eq_zero (by omega)
  subst this
  unfold iD
  repeat' split
  all_goals first|(first|exact aT _|exact aZ|exact bN _)|contradiction|exact hl _ (by simp) _ _ _
 | succ n ih=>
  have hl:∀ (r:Bs),r.length≤n+1→∀ (inq:UInt8) (d:Int) (buf:Bs),BL f (fG f r inq d buf):=by
   intro r hr inq d buf
   cases r with
   | nil=>unfold fG;(first|exact aT _|exact aZ|exact bN _)
   | cons b r=>
    unfold fG
    split
    ·(first|exact aT _|exact aZ|exact bN _)
    ·exact ih.1 _ (by simp at hr;omega) _ _ _ _
  refine ⟨fun r hr b inq d buf=>?_,hl⟩
  unfold iD
  split
  ·exact hl _ hr _ _ _
  ·split
   ·exact hl _ hr _ _ _
   ·split
    ·exact hl _ hr _ _ _
    ·split
     ·exact hl _ hr _ _ _
     ·split
      ·split
       ·(first|exact aT _|exact aZ|exact bN _)
       ·simp only [List.length_cons] at hr
        split
        ·split
         ·(first|exact aT _|exact aZ|exact bN _)
         ·simp only [List.length_cons] at hr
          split
          ·split
           ·(first|exact aT _|exact aZ|exact bN _)
           ·simp only [List.length_cons] at hr
            split
            ·split
             ·rename_i he;exact nI (BN _ _ _ _) he
             ·rename_i he
              have:=lE he
              exact ih.2 _ (by omega) _ _ _
            ·exact ih.1 _ (by omega) _ _ _ _
          ·exact ih.1 _ (by omega) _ _ _ _
        ·exact ih.1 _ (by omega) _ _ _ _
      ·exact hl _ hr _ _ _
theorem ID (f:Bool):∀ (p r:Bs),BL f (fH f p r)
 | [],_=>by unfold fH;(first|exact aT _|exact aZ|exact bN _)
 | _::_,[]=>by unfold fH;(first|exact aT _|exact aZ|exact bN _)
 | p::ps,b::r=>by
  unfold fH
  split
  ·exact ID f ps r
  ·(first|exact aT _|exact aZ|exact bN _)
theorem Ea (o:cU) (r:Bs):BL o.fails (kK o r):=by
 unfold kK
 split
 ·(first|exact aT _|exact aZ|exact bN _)
 ·split
  ·split
   ·(first|exact aT _|exact aZ|exact bN _)
   ·split
    ·split
     ·rename_i he;exact nI (BM _ _ _ _ _) he
     ·(first|exact aT _|exact aZ|exact bN _)
    ·(first|exact aT _|exact aZ|exact bN _)
  ·split
   ·split
    ·rename_i he;exact nI (ID _ _ _) he
    ·split
     ·rename_i he;exact nI (ET _ _ _ _ _ (Nat.le_refl _) _ _ _) he
     ·(first|exact aT _|exact aZ|exact bN _)
   ·split
    ·rename_i he;exact nI ((Wy _ _).2 _ (Nat.le_refl _) _ _ _) he
    ·(first|exact aT _|exact aZ|exact bN _)
theorem OB (f:Bool):∀ (r:Bs) (b0:UInt8) (buf:Bs),BL f (kJ f r b0 buf)
 | [],_,_=>by unfold kJ;(first|exact aT _|exact aZ|exact bN _)
 | b::r,b0,buf=>by
  unfold kJ
  split
  ·(first|exact aT _|exact aZ|exact bN _)
  ·exact OB f r _ _
theorem Wz (o:cU) (r:Bs) (h:FC o r≠.error .other):BL o.fails (FC o r):=by
 intro e he
 unfold FC at he h
 cases hn:eX o.fails r with
 | error e'=>
  rw [hn] at he
  simp only [Except.error.injEq] at he
  subst he
  exact N9 _ _ _ hn
 | ok x=>
  obtain ⟨tg,r1⟩:=x
  rw [hn] at he h
  simp only at he h
  cases hp:kJ o.fails (aM r1) 0 [] with
  | error e'=>
   rw [hp] at he
   simp only [Except.error.injEq] at he
   subst he
   exact OB _ _ _ _ _ hp
  | ok y=>
   obtain ⟨s,r2⟩:=y
   rw [hp] at he h
   simp only at he h
   split at he
   ·rename_i hc;rw [if_pos hc] at h;exact absurd rfl h
   ·cases he
end Go.Proofs.YtdjdjbpnbjdaaaaGreatDoor
