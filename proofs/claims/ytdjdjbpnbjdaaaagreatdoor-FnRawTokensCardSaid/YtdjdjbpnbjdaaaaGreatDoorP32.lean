/- Part of the proof that laws.FnRawTokens returns true for every argument. No conditions. -/
import Derived.Test.YtdjdjbpnbjdaaaaGreatDoorP31
import Derived.Test.YtdjdjbpnbjdaaaaGreatDoorP28
import Derived.Laws.OwnMore
import Derived.Test.YtdjdjbpnbjdaaaaGreatDoorP29
set_option linter.all false
set_option maxHeartbeats 8000000
set_option maxRecDepth 100000
namespace Go.Proofs.YtdjdjbpnbjdaaaaGreatDoor
open Go Go.RowKit Tryz
theorem Cv {b k:UInt8} (h:b≠k):((b.toNat:Int) != (k.toNat:Int))=true:=by
 rw [bne,pP h];rfl
theorem Q8 (w:World):Calls prog 52 #[.int .i64 (-1)] w fun e w'=>e=.returned (.bool false)∧w'=w:=by
 refine eJ 37 func52 [_] fun f=>?_
 simp only [aE]
 refine vg ?_
 (refine cW ?_)
 exact ⟨rfl,rfl⟩
theorem V9 (n:Int) (h:-1≤n) (w:World):Calls prog 52 #[.int .i64 n] w fun e w'=>e=.returned (.bool (jW n))∧w'=w:=by
 by_cases h0:0≤n
 ·obtain ⟨m,rfl⟩:∃ m:Nat,n=m:=⟨n.toNat,by omega⟩
  refine (yA m w).mono ?_
  rintro e w' ⟨rfl,rfl⟩
  exact ⟨by unfold jW;simp,rfl⟩
 ·have:n=-1:=by omega
  subst this
  refine (Q8 w).mono ?_
  rintro e w' ⟨rfl,rfl⟩
  exact ⟨rfl,rfl⟩
def sS (x:PX) (base:Nat) (ents:aO) (w:World):Prop:=
 ents.length≤2147483647∧((ents=[]∧x.ents=.slice none 0 0)∨∃ b o C,x.ents=.slice (some ⟨b,o,none⟩) ents.length C∧b<base∧b<w.heap.size∧∀ j u,(eW ents)[j]?=some u→w.cell? ⟨b,o+j,none⟩=some u)
theorem sS.below {x:PX} {base:Nat} {ents:aO} {w w':World} (h:sS x base ents w) (hb:Below base w w'):sS x base ents w':=by
 obtain ⟨h1,h2|⟨b,o,C,h2,h3,h4,h5⟩⟩:=h
 ·exact ⟨h1,Or.inl h2⟩
 ·exact ⟨h1,Or.inr ⟨b,o,C,h2,h3,Nat.lt_of_lt_of_le h4 hb.size,fun j u hu=>(hb.cell (p:=⟨b,o+j,none⟩) h3).trans (h5 j u hu)⟩⟩
theorem Vw:(prog.info? 170).map (fun i=>(i.zero,i.size,i.bytes))=some (some (.agg #[.string ⟨#[]⟩,.string ⟨#[]⟩]),2,32):=by kernel_rfl
theorem NS (a b:aO):eW (a++b)=eW a++eW b:=by simp [eW]
theorem NT (a:aO):(eW a).length=a.length*2:=by
 induction a with
 | nil=>rfl
 | cons p l ih=>rw [eW,List.flatMap_cons,List.length_append];rw [eW] at ih;rw [ih];simp;omega
theorem BJ:∀ (l:aO) (i:Nat) (p:Bs×Bs),l[i]?=some p→(eW l)[i*2]?=some (aB p.1)∧(eW l)[i*2+1]?=some (aB p.2)
 | [],i,p,h=>by simp at h
 | q::l,0,p,h=>by
  simp at h;subst h;exact ⟨rfl,rfl⟩
 | q::l,i+1,p,h=>by
  have:=BJ l i p (by simpa using h)
  have e:eW (q::l)=[aB q.1,aB q.2]++eW l:=rfl
  rw [e]
  constructor
  ·rw [List.getElem?_append_right (by simp;omega)];simpa [Nat.add_mul] using this.1
  ·rw [List.getElem?_append_right (by simp;omega)]
   have e2:(i+1)*2+1-[aB q.1,aB q.2].length=i*2+1:=by simp;omega
   rw [e2];exact this.2
theorem Le (x:PX) (base:Nat) (ents:aO) (W:World) (hE:sS x base ents W) (g:Nat) (hg:aJ W g (eW qT).toArray 170) :
  ∃ v' w4,(Builtin.append_ #[37,37] 37 #[.slice (some ⟨g,0,none⟩) 5 5,x.ents]).run prog W=.ok v' w4∧w4.ownsRow 0 170 2 v' (qT++ents).length (eW (qT++ents))∧aK (fun k=>k=g) W w4:=by
 obtain ⟨i,hi,hz,h2,h3⟩:=info_parts Vw
 have eC:W.ownsRow 0 170 2 (.slice (some ⟨g,0,none⟩) 5 5) 5 (eW qT):=⟨rfl,Or.inr ⟨g,5,(eW qT).toArray,rfl,Nat.zero_le _,hg,Nat.le_refl _,by decide,rfl,rfl⟩⟩
 obtain ⟨hn,h|⟨b,o,C,h,_,_,hc⟩⟩:=hE
 ·obtain ⟨rfl,h⟩:=h
  rw [h]
  refine ⟨_,_,run_append_owned_none W 0 _ _ _ i 2 underlying37 hi _ 5 (eW qT) eC,?_,aK.refl _ _⟩
  rw [List.append_nil];exact eC
 ·rw [h]
  obtain ⟨v',w4,hr,ho,hg,_,_⟩:=run_append_own_at (P:=prog) W 0 37 37 170 i _ 2 32 underlying37 hi hz h2 h3 rfl (by omega) _ 5 (eW qT) eC ⟨b,o,none⟩ ents.length C (eW ents) (NT ents)
   (fun j u hj=>by rw [show ((⟨b,o,none⟩:Addr).add j)=⟨b,o+j,none⟩ by cases j<;>simp [Addr.add]];exact hc j u hj)
   (fun u hu=>by
    obtain ⟨p,_,hu⟩:=List.mem_flatMap.1 hu
    simp only [List.mem_cons,List.not_mem_nil,or_false] at hu
    rcases hu with rfl|rfl<;>rfl) (by unfold maxLen;omega) (by omega) (Nat.zero_le _)
  refine ⟨v',w4,hr,?_,⟨hg.os,hg.tape,hg.output,hg.size,fun k hk hn=>hg.block k hk (fun he=>hn (by simpa [Value.ownBlock] using he))⟩⟩
  rw [NS,List.length_append]
  exact ho
theorem Vx {T:Bs} {a:Nat} (ha:a<T.length) (h:T.getD a 0=59):iY 59 (T.drop a)=some []:=by
 rw [bT T a ha];unfold iY;rw [if_pos h]
theorem Lf {T:Bs} {a:Nat} (ha:a<T.length) (h:¬ T.getD a 0=59):iY 59 (T.drop a)=(iY 59 (T.drop (a+1))).map (T.getD a 0::·):=by
 rw [bT T a ha]
 conv=>lhs;unfold iY
 rw [if_neg h]
theorem Vy {T:Bs} {a:Nat} (ha:T.length≤a):iY 59 (T.drop a)=none:=by rw [List.drop_eq_nil_of_le ha];rfl
def xE (T:Bs) (i a:Nat):Prop:=iY 59 (T.drop i)=(iY 59 (T.drop a)).map ((T.drop i).take (a-i)++·)
theorem xE.start (T:Bs) (i:Nat):xE T i i:=by
 unfold xE
 cases iY 59 (T.drop i)<;>simp
theorem xE.next {T:Bs} {i a:Nat} (h:xE T i a) (hia:i≤a) (ha:a<T.length) (hm:¬ T.getD a 0=59):xE T i (a+1):=by
 unfold xE at h ⊢
 rw [h,Lf ha hm,zP T i a hia ha]
 cases iY 59 (T.drop (a+1))<;>simp
theorem xE.hit {T:Bs} {i a:Nat} (h:xE T i a) (ha:a<T.length) (hm:T.getD a 0=59):iY 59 (T.drop i)=some ((T.drop i).take (a-i)):=by
 unfold xE at h
 rw [h,Vx ha hm];simp
theorem xE.none {T:Bs} {i a:Nat} (h:xE T i a) (ha:T.length≤a):iY 59 (T.drop i)=none:=by
 unfold xE at h
 rw [h,Vy ha];rfl
def a2c (x:PX) (c:PC) (w0:World) (k:Nat) (ac:Act) (w:World):Prop:=
 ∃ f a,ac=fr 118 f [(0,oM x),(4,.int .i64 (a:Nat))]∧w0=w∧k=x.T.length-a∧a≤x.T.length∧c.at'≤a∧xE x.T c.at' a
theorem Q9 {l:aO} {k:Bs} {i:Nat} {p:Bs×Bs} (h:l[i]?=some p):iI (l.drop i) k=if p.1=k then some p.2 else iI (l.drop (i+1)) k:=by
 obtain ⟨hi,rfl⟩:=List.getElem?_eq_some_iff.1 h
 rw [List.drop_eq_getElem_cons hi]
 unfold iI
 by_cases hk:l[i].1=k
 ·rw [if_pos hk,List.find?_cons_of_pos (by simpa using hk)];rfl
 ·rw [if_neg hk,List.find?_cons_of_neg (by simpa using hk)]
def a2d (l:aO) (nm:Bs) (px:Value) (v:Value) (w0:World) (k:Nat) (ac:Act) (w:World):Prop:=
 ∃ f i,ac=fr 118 f [(0,px),(5,aB nm),(103,v),(104,.int .i64 (l.length:Nat)),(105,.int .i64 (i:Nat))]∧Below w0.heap.size w0 w∧k=l.length-i∧i≤l.length∧iI l nm=iI (l.drop i) nm
theorem Vz (x:PX) (hT:x.T.length≤1000000000) (base:Nat) (IT:base≤x.p) (ents:aO) (w:World) (c:PC) (h:aU x w c) (ha:c.at'≤x.T.length) (hE:sS x base ents w) :
  Calls prog 80 #[oM x] w (eT x w c (fun s=>.returned (.tuple #[aB s,.bool true])) (.returned (.tuple #[aB [],.bool false])) (kF ents (x.T.drop c.at'))):=by
 have hc:=h.cell
 have hf:=h.frozen
 have H:=Lh h
 have HT:=Lh hT
 have HA:=Lh ha
 have HE:=Lh hE
 clear h hT ha hE
 refine eJ 118 func80 [_] fun f=>?_
 simp only [aE]
 (refine vg ?_;intro K hK)
 (refine cJ [0,4] fun f=>?_)
 refine wp_loop_ghost_k (a2c x c w) (x.T.length-c.at') ⟨f,c.at',rfl,rfl,rfl,HA.out,Nat.le_refl _,xE.start _ _⟩ ?_
 rintro k _ _ ⟨f,a,rfl,rfl,hk,iK,vV,hup⟩ J K2 hJ cY
 have HJ:=Lh hJ
 have dN:=Lh cY
 have HK:=Lh hk
 have kA:=Lh iK
 have sN:=Lh vV
 have HUP:=Lh hup
 clear hJ cY hk iK vV hup
 have w1:IntKind.i64.wrap ((a:Int)+1)=((a+1:Nat):Int):=by rw [IntKind.wrap_i64];have:=HT.out;have:=kA.out;omega
 by_cases bB:a<x.T.length
 rotate_left
 ·have haa:a=x.T.length:=by have:=kA.out;omega
  subst haa
  have t1:¬ ((x.T.length:Int)<(x.T.length:Int)):=by omega
  have HR:=Lh (show kF ents (x.T.drop c.at')=.error .bad by unfold kF;rw [HUP.out.none (Nat.le_refl _)])
  have HF:=Lh (mV x w c H.out 1)
  (revert K;refine vg ?_;(repeat with_reducible intro K hK))
  refine HF.out.mono ?_
  rintro e3 w3 ⟨rfl,eK,cD⟩
  have eP:=Lh eK
  have fM:=Lh cD
  clear eK cD
  ((repeat revert K);refine vS ?_;intro K hK)
  (refine kX ?_)
  exact eT.bad HR.out eP.out fM.out
 have t0:(0:Int)≤(a:Int):=by omega
 have t1:(a:Int)<(x.T.length:Int):=by omega
 obtain ⟨b,hb⟩:∃ b,b=x.T.getD a 0:=⟨_,rfl⟩
 have ix:∀ h,(⟨x.T.toArray⟩:ByteArray)[a]'h=b:=by rw [hb];exact jG x.T a bB
 by_cases Lg:b=59
 rotate_left
 ·have he:((b.toNat:Int) != 59)=true:=Cv Lg
  have Fk:=Lh (HUP.out.next sN.out bB (by rw [←hb];exact Lg))
  clear hb Lg
  (revert K;refine vg ?_;intro K hK)
  (refine Kk [0,4] fun f=>?_)
  exact dN.out _ _ ⟨x.T.length-(a+1),by rw [HK.out];omega,HJ.out _ _ _ ⟨f,a+1,rfl,rfl,rfl,bB,by have:=sN.out;omega,Fk.out⟩⟩
 have Fk:=Lh (HUP.out.hit bB (by rw [←hb];exact Lg))
 have he:((b.toNat:Int) != 59)=false:=by rw [Lg];rfl
 have cB:((a:Int)==(x.T.length:Int))=false:=by rw [beq_eq_false_iff_ne];omega
 have z1:(0:Int)≤(c.at':Int):=by omega
 have z2:(c.at':Int)≤(a:Int):=by have:=sN.out;omega
 have z3:(a:Int)≤(x.T.length:Int):=by omega
 clear hb Lg dN HJ
 (revert K;refine vg ?_;intro K hK)
 (refine aI [0,0,0,1,0,0,0,1,0,0,0] [0,1,2,3,4,5,6,7,8,9,10] (by kernel_rfl) (by kernel_rfl) ?_;refine vP ?_;repeat with_reducible intro nq)
 rw [lO]
 obtain ⟨nm,lD⟩:∃ nm,nm=(x.T.drop c.at').take (a-c.at'):=⟨_,rfl⟩
 have LJ:=Lh (show nm.length=a-c.at' by rw [lD,List.length_take,List.length_drop];omega)
 have Wa:=Lh (show nm.length≤1000000000 by rw [LJ.out];have:=HT.out;omega)
 rw [←lD] at Fk ⊢
 clear lD ix he cB hc hf
 have hc:=(show aU x (w.drewN nq) c from H.out).cell
 have hf:=(show aU x (w.drewN nq) c from H.out).frozen
 (revert K;refine vT 8 ?_)
 obtain ⟨w5,Rf⟩:∃ w5,w5=(w.drewN nq).setCell ⟨x.p,1,none⟩ (.int .i64 ((a:Int)+1)):=⟨_,rfl⟩
 have rL:=Lh (show aU x w5 { c with at':=a+1 } by rw [Rf];exact aJ.set (w:=w.drewN nq) (cs:=gV x c) H.out 1 _)
 have pY:=Lh (show aK (fun k=>k=x.p) w w5 by rw [Rf];exact aK.setCell (S:=fun k=>k=x.p) ((aK.refl _ w).drewN _) (p:=⟨x.p,1,none⟩) (Or.inl rfl) _)
 rw [←Rf]
 clear Rf hc hf
 have OO:=Lh (show (x.T.drop c.at').drop (nm.length+1)=x.T.drop (a+1) by rw [List.drop_drop,LJ.out];congr 1;have:=sN.out;omega)
 have Ja:=Lh (show a+1≤x.T.length from bB)
 have fV:=Lh (show c.at'≤a+1 by have:=sN.out;omega)
 have Ys:=Lh (fun (w':World) (h1:aU x w' { c with at':=a+1 }) (h2:aK (fun k=>k=x.p) w w') (v:Int)=>mO x w w' { c with at':=a+1 } h1 h2 v)
 have P7:=Lh (fun w=>sF nm Wa.out w)
 cases nm with
 | nil=>
  have HR:=Lh (show kF ents (x.T.drop c.at')=.error .bad by unfold kF;rw [Fk.out])
  (refine vg ?_;(repeat with_reducible intro K hK))
  refine (P7.out _).mono ?_
  rintro e6 w6 ⟨rfl,rfl⟩
  rw [show bE []=1 from rfl]
  ((repeat revert K);refine vS ?_;(repeat with_reducible intro K hK))
  refine (Ys.out _ (by exact rL.out) (by exact eF pY.out rfl rfl rfl rfl) _).mono ?_
  rintro e3 w3 ⟨rfl,eK,cD⟩
  have eP:=Lh eK
  have fM:=Lh cD
  clear eK cD
  ((repeat revert K);refine vS ?_;intro K hK)
  (refine kX ?_)
  exact eT.bad HR.out eP.out fM.out
 | cons c0 t=>
  have HNT:=Lh (show t.length≤1000000000 by have:=Wa.out;simp at this;omega)
  obtain ⟨nm,lD⟩:∃ nm:Bs,nm=c0::t:=⟨_,rfl⟩
  have ix0:∀ h,(⟨nm.toArray⟩:ByteArray)[0]'h=c0:=by rw [lD];exact fun h=>rfl
  have Sf:nm.isEmpty=false:=by rw [lD];rfl
  have g2:(1:Int)≤(nm.length:Int):=by rw [lD];simp;omega
  have g1:(0:Int)<(nm.length:Int):=by omega
  have g4:0<nm.length:=by omega
  have Hl:=Lh lD
  have nR:nm.drop 1=t:=by rw [lD];rfl
  have FG:=Lh nR
  clear nR
  by_cases Ut:c0=35
  ·have HR := Lh (show kF ents (x.T.drop c.at') = match iT t with
     | none=>.error .bad
     | some n=>if jW n then .ok (fN n.toNat,x.T.drop (a+1)) else .error .opn by
    have h9:=OO.out
    rw [List.length_cons] at h9
    unfold kF;rw [Fk.out];simp only [if_pos Ut,h9];rfl)
   have nQ:=Lh (fun w=>Cs t HNT.out w)
   rw [←lD]
   clear lD
   subst Ut
   (refine vg ?_;(repeat with_reducible intro K hK))
   rw [jI,FG.out]
   refine (nQ.out _).mono ?_
   rintro e6 w6 ⟨hna,k6,rfl⟩
   cases hn:iT t with
   | none=>
    rw [hn] at hna HR
    have Wb:e6=.returned (.tuple #[.int .i64 0,.bool false]):=hna
    subst Wb
    ((repeat revert K);refine vS ?_;(repeat with_reducible intro K hK))
    refine (Ys.out _ (by exact rL.out) (by exact eF pY.out rfl rfl rfl rfl) _).mono ?_
    rintro e3 w3 ⟨rfl,eK,cD⟩
    have eP:=Lh eK
    have fM:=Lh cD
    clear eK cD
    ((repeat revert K);refine vS ?_;(repeat with_reducible intro K hK))
    (refine kX ?_)
    exact eT.bad HR.out eP.out fM.out
   | some n=>
    rw [hn] at hna HR
    obtain ⟨Wb,iL,gK⟩:e6=.returned (.tuple #[.int .i64 n,.bool true])∧-1≤n∧n≤1114111:=hna
    subst Wb
    have a4u:=Lh (fun w=>V9 n iL w)
    ((repeat revert K);refine vS ?_;(repeat with_reducible intro K hK))
    refine (a4u.out _).mono ?_
    rintro e7 w7 ⟨rfl,rfl⟩
    go_simp
    cases JG:jW n with
    | false=>
     have fB:=Lh (show kF ents (x.T.drop c.at')=.error .opn by rw [HR.out];simp only [JG];rfl)
     ((repeat revert K);refine vg ?_;(repeat with_reducible intro K hK))
     refine (Ys.out _ (by exact rL.out) (by exact eF pY.out rfl rfl rfl rfl) _).mono ?_
     rintro e3 w3 ⟨rfl,eK,cD⟩
     have eP:=Lh eK
     have fM:=Lh cD
     clear eK cD
     ((repeat revert K);refine vS ?_;(repeat with_reducible intro K hK))
     (refine kX ?_)
     exact eT.bad fB.out eP.out fM.out
    | true=>
     have fB:=Lh (show kF ents (x.T.drop c.at')=.ok (fN n.toNat,x.T.drop (a+1)) by rw [HR.out];simp only [JG];rfl)
     obtain ⟨m,rfl⟩:∃ m:Nat,n=m:=⟨n.toNat,by unfold jW at JG;rw [Bool.and_eq_true,decide_eq_true_eq] at JG;omega⟩
     have a4v:=Lh (fun w=>Ct m (by unfold jW at JG;rw [Bool.and_eq_true] at JG;exact JG.2) w)
     ((repeat revert K);refine vg ?_;(repeat with_reducible intro K hK))
     refine (a4v.out _).mono ?_
     rintro e8 w8 ⟨rfl,kZ⟩
     have GY:=Lh kZ
     clear kZ
     ((repeat revert K);refine vS ?_;intro K hK)
     (refine kX ?_)
     exact eT.okk fB.out Ja.out fV.out (aJ.mod (S:=fun _=>False) (w:=w5.drewN _) rL.out GY.out id) ((show aK (fun k=>k=x.p) w (w5.drewN _) from eF pY.out rfl rfl rfl rfl).trans GY.out (fun _ _ h=>h.elim))
  ·have a5s:((c0.toNat:Int)==35)=false:=pP Ut
   have HR:=Lh (show kF ents (x.T.drop c.at')=if bE (c0::t)=2 then .error .opn else if bE (c0::t)=1 then .error .bad
     else match iI (qT++ents) (c0::t) with
      | some s=>.ok (s,x.T.drop (a+1))
      | none=>.error .bad by
    have h9:=OO.out
    rw [List.length_cons] at h9
    unfold kF;rw [Fk.out];simp only [if_neg Ut,h9];rfl)
   rw [←lD] at HR P7 ⊢
   clear lD Ut HNT OO LJ Wa Fk Hl FG
   (refine vg ?_;(repeat with_reducible intro K hK))
   refine (P7.out _).mono ?_
   rintro e6 w6 ⟨rfl,rfl⟩
   go_simp
   by_cases OR:bE nm=2
   ·have fB:=Lh (HR.out.trans (if_pos OR))
    rw [OR]
    ((repeat revert K);refine vg ?_;(repeat with_reducible intro K hK))
    refine (Ys.out _ (by exact rL.out) (by exact eF pY.out rfl rfl rfl rfl) _).mono ?_
    rintro e3 w3 ⟨rfl,eK,cD⟩
    have eP:=Lh eK
    have fM:=Lh cD
    clear eK cD
    ((repeat revert K);refine vS ?_;intro K hK)
    (refine kX ?_)
    exact eT.bad fB.out eP.out fM.out
   by_cases xO:bE nm=1
   ·have fB:=Lh ((HR.out.trans (if_neg OR)).trans (if_pos xO))
    rw [xO]
    ((repeat revert K);refine vg ?_;(repeat with_reducible intro K hK))
    refine (Ys.out _ (by exact rL.out) (by exact eF pY.out rfl rfl rfl rfl) _).mono ?_
    rintro e3 w3 ⟨rfl,eK,cD⟩
    have eP:=Lh eK
    have fM:=Lh cD
    clear eK cD
    ((repeat revert K);refine vS ?_;intro K hK)
    (refine kX ?_)
    exact eT.bad fB.out eP.out fM.out
   have e2:((bE nm:Int)==2)=false:=by rw [beq_eq_false_iff_ne];omega
   have e1:((bE nm:Int)==1)=false:=by rw [beq_eq_false_iff_ne];omega
   have fB:=Lh ((HR.out.trans (if_neg OR)).trans (if_neg xO))
   clear xO OR HR
   have J7:=aJ.alloc (w:=w6) (b:=x.p) rL.out (.cells #[.string ⟨#[108,116]⟩,.string ⟨#[60]⟩,.string ⟨#[103,116]⟩,.string ⟨#[62]⟩,.string ⟨#[97,109,112]⟩,.string ⟨#[38]⟩,.string ⟨#[97,112,111,115]⟩,.string ⟨#[39]⟩,.string ⟨#[113,117,111,116]⟩,.string ⟨#[34]⟩] 170)
   have hc:=J7.cell
   have hf:=J7.frozen
   have hga:aJ (w6.alloc (.cells #[.string ⟨#[108,116]⟩,.string ⟨#[60]⟩,.string ⟨#[103,116]⟩,.string ⟨#[62]⟩,.string ⟨#[97,109,112]⟩,.string ⟨#[38]⟩,.string ⟨#[97,112,111,115]⟩,.string ⟨#[39]⟩,.string ⟨#[113,117,111,116]⟩,.string ⟨#[34]⟩] 170)) w6.heap.size (eW qT).toArray 170:=aJ.new w6 _ _
   have eZ:Below base w w6:=aK.below (Below.refl _ w) (Nat.le_trans IT (Nat.le_of_lt (aJ.lt H.out))) pY.out (fun i hi=>by rw [hi];exact IT)
   have hEw:=HE.out.below (eZ.trans ((Below.refl _ w6).alloc (Nat.le_trans IT (Nat.le_of_lt (aJ.lt rL.out))) (.cells #[.string ⟨#[108,116]⟩,.string ⟨#[60]⟩,.string ⟨#[103,116]⟩,.string ⟨#[62]⟩,.string ⟨#[97,109,112]⟩,.string ⟨#[38]⟩,.string ⟨#[97,112,111,115]⟩,.string ⟨#[39]⟩,.string ⟨#[113,117,111,116]⟩,.string ⟨#[34]⟩] 170)))
   obtain ⟨v',w8,gA,eC,kZ⟩:=Le x base ents (w6.alloc (.cells #[.string ⟨#[108,116]⟩,.string ⟨#[60]⟩,.string ⟨#[103,116]⟩,.string ⟨#[62]⟩,.string ⟨#[97,109,112]⟩,.string ⟨#[38]⟩,.string ⟨#[97,112,111,115]⟩,.string ⟨#[39]⟩,.string ⟨#[113,117,111,116]⟩,.string ⟨#[34]⟩] 170)) hEw w6.heap.size hga
   have a2e:aK (fun _=>False) w6 w8:=⟨kZ.os,kZ.tape,kZ.output,by have:=kZ.size;simp at this;omega,fun k hk _=>(kZ.block k (by simp;omega) (by omega)).trans (pX _ _ _ hk)⟩
   obtain ⟨l,hl⟩:∃ l,l=qT++ents:=⟨_,rfl⟩
   have YG:=Lh (show l.length≤3000000000 by rw [hl,List.length_append];have:=HE.out.1;have:qT.length=5:=rfl;omega)
   have HL0:=Lh (show 0<l.length by rw [hl,List.length_append];have:qT.length=5:=rfl;omega)
   rw [←hl] at eC fB
   obtain ⟨g,cap,rfl,_,FA,_,_,gR⟩:=lT eC HL0.out
   have Pm:=Lh gR
   have XB:=Lh FA
   have Li:=Lh a2e
   have xC:=Lh eC
   have GY:=Lh kZ
   clear J7 hga eC kZ a2e hl gR FA eZ hEw
   ((repeat revert K);refine vB ?_;(repeat with_reducible intro K hK))
   refine gQ rfl (.tmp 98) (.tmp 102) _ _ rfl _ _ _ (by rw [dZ (by decide)];(try simp only [aL,aQ,aS,bD,Nat.reduceEqDiff,↓reduceIte]);(try rfl)) (by rw [dZ (by decide)];(try simp only [aL,aQ,aS,bD,Nat.reduceEqDiff,↓reduceIte]);(try rfl)) gA ?_
   clear gA
   rw [mC (by decide)]
   ((repeat revert K);refine vg ?_;intro K hK)
   (refine cJ [0,5,103,104,105] fun f=>?_)
   refine wp_loop_ghost_k (a2d l nm (oM x) (.slice (some ⟨g,0,none⟩) l.length cap) w8) l.length ⟨f,0,rfl,Below.refl _ w8,rfl,Nat.zero_le _,by simp⟩ ?_
   rintro k9 _ w9 ⟨f,i,rfl,JQ,hk9,hi9,a2f⟩ J K2 hJ cY
   have HJ:=Lh hJ
   have dN:=Lh cY
   have pF:=Lh JQ
   have HK9:=Lh hk9
   have HLK:=Lh a2f
   clear hJ cY JQ hk9 a2f hc hf
   by_cases WA:i<l.length
   ·have t0:(0:Int)≤(i:Int):=by omega
    have t1:(i:Int)<(l.length:Int):=by omega
    have wi:IntKind.i64.wrap ((i:Int)+1)=((i+1:Nat):Int):=by rw [IntKind.wrap_i64];have h2:=YG.out;omega
    obtain ⟨p,hp⟩:∃ p,l[i]?=some p:=⟨l[i],by simp [WA]⟩
    obtain ⟨q1,q2⟩:=BJ l i p hp
    have z7:w9.cell? ⟨g,i*2,none⟩=some (aB p.1):=(pF.out.cell (p:=⟨g,i*2,none⟩) XB.out).trans (Pm.out _ _ q1)
    have z8:w9.cell? ⟨g,i*2+1,none⟩=some (aB p.2):=(pF.out.cell (p:=⟨g,i*2+1,none⟩) XB.out).trans (Pm.out _ _ q2)
    have HLM:=Lh (HLK.out.trans (Q9 hp))
    obtain ⟨wa,jY⟩:∃ wa,wa=w9.alloc (.cells #[aB p.1,aB p.2] 170):=⟨_,rfl⟩
    have k8:aJ wa w9.heap.size #[aB p.1,aB p.2] 170:=by rw [jY];exact aJ.new w9 _ _
    have s7:=Lh (show Below w8.heap.size w8 wa by rw [jY];exact pF.out.alloc pF.out.size _)
    have wG:=k8.cell
    have FJ:=k8.frozen
    clear q1 q2 hp k8
    (revert K;refine vT 23 ?_;(repeat with_reducible intro K hK))
    rw [←jY]
    clear jY z7 z8
    cases XA:(p.1==nm) with
    | true=>
     have HLR:=Lh (show iI l nm=some p.2 by rw [HLM.out,if_pos (beq_iff_eq.1 XA)])
     have DP:=Lh (show kF ents (x.T.drop c.at')=.ok (p.2,x.T.drop (a+1)) by rw [fB.out,HLR.out])
     ((repeat revert K);refine vg ?_;(repeat with_reducible intro K hK))
     (refine kX ?_)
     exact eT.okk DP.out Ja.out fV.out ((aJ.mod (S:=fun _=>False) rL.out Li.out id).mod (aH s7.out (fun _=>False)) id) ((pY.out.trans Li.out (fun _ _ h=>h.elim)).trans (aH s7.out (fun _=>False)) (fun _ _ h=>h.elim))
    | false=>
     have HLN:=Lh (show iI l nm=iI (l.drop (i+1)) nm by rw [HLM.out,if_neg (fun h=>by rw [beq_iff_eq.2 h] at XA;cases XA)])
     ((repeat revert K);refine vg ?_;intro K hK)
     (refine Kk [0,5,103,104,105] fun f=>?_)
     exact dN.out _ _ ⟨l.length-(i+1),by rw [HK9.out];omega,HJ.out _ _ _ ⟨f,i+1,rfl,s7.out,rfl,WA,HLN.out⟩⟩
   ·have sX:i=l.length:=by omega
    subst sX
    have t1:¬ ((l.length:Int)<(l.length:Int)):=by omega
    have HLR:=Lh (show iI l nm=none by rw [HLK.out,List.drop_length];rfl)
    have DP:=Lh (show kF ents (x.T.drop c.at')=.error .bad by rw [fB.out,HLR.out])
    have a2g:=(pY.out.trans Li.out (fun _ _ h=>h.elim)).trans (aH pF.out (fun _=>False)) (fun _ _ h=>h.elim)
    have a2h:=(aJ.mod (S:=fun _=>False) rL.out Li.out id).mod (aH pF.out (fun _=>False)) id
    have tG:=Lh a2g
    have FZ:=Lh a2h
    clear a2g a2h
    (revert K;refine vg ?_;(repeat with_reducible intro K hK))
    refine (Ys.out _ (by exact FZ.out) (by exact tG.out) _).mono ?_
    rintro e3 w3 ⟨rfl,eK,cD⟩
    have eP:=Lh eK
    have fM:=Lh cD
    clear eK cD
    ((repeat revert K);refine vS ?_)
    (refine kX ?_)
    exact eT.bad DP.out eP.out fM.out
theorem NU (ents:aO) {T:Bs} {a:Nat} (h:T.length≤a):fR ents (T.drop a)=.error .bad:=by
 rw [List.drop_eq_nil_of_le h];rfl
theorem EB (ents:aO) {T:Bs} {a:Nat} (ha:a<T.length) (h:T.getD a 0=38):fR ents (T.drop a)=match kF ents (T.drop (a+1)) with
  | .error e=>.error e
  | .ok (t,r2)=>if bI t then .ok (t,r2) else .error .opn:=by
 rw [bT T a ha,h];rfl
theorem EC (ents:aO) {T:Bs} {a:Nat} (ha:a<T.length) (h:¬ T.getD a 0=38):fR ents (T.drop a)=if (aF (T.drop a)).2=0∨bU (aF (T.drop a)).1=false then .error .bad else .ok ((T.drop a).take (aF (T.drop a)).2,T.drop (a+(aF (T.drop a)).2)):=by
 rw [←List.drop_drop]
 rw [bT T a ha]
 show (if T.getD a 0=38 then _ else _)=_
 rw [if_neg h]
def pT (ents:aO):Prop:=∀ p∈ents,p.2.length≤2147483647
theorem WB {l:aO} {k s:Bs} (h:iI l k=some s):∃ p∈l,p.2=s:=by
 unfold iI at h
 cases hf:l.find? (·.1==k) with
 | none=>rw [hf] at h;cases h
 | some p=>
  rw [hf] at h
  simp at h
  exact ⟨p,List.mem_of_find?_eq_some hf,h⟩
theorem Lj (n:Nat):(fN n).length≤2147483647:=by
 have e:∀ l:Bs,l.length=1∨l.length=2∨l.length=3∨l.length=4→l.length≤2147483647:=fun l h=>by omega
 refine e _ ?_
 unfold fN Utf8.encode
 generalize (if Utf8.valid (n:Int)=true then (n:Int).toNat else Utf8.runeError)=c
 simp only
 split
 ·exact Or.inl rfl
 ·split
  ·exact Or.inr (Or.inl rfl)
  ·split
   ·exact Or.inr (Or.inr (Or.inl rfl))
   ·exact Or.inr (Or.inr (Or.inr rfl))
theorem TE {ents:aO} {rest t r:Bs} (h:kF ents rest=.ok (t,r)):((∃ n,t=fN n)∨∃ k,iI (qT++ents) k=some t)∧∃ m,r=rest.drop m:=by
 unfold kF at h
 cases hu:iY 59 rest with
 | none=>rw [hu] at h;cases h
 | some s=>
  rw [hu] at h
  cases s with
  | nil=>cases h
  | cons c q=>
   simp only at h
   by_cases hc:c=35
   ·rw [if_pos hc] at h
    cases hn:iT q with
    | none=>rw [hn] at h;cases h
    | some n=>
     rw [hn] at h
     simp only at h
     split at h
     ·simp only [cI,cC] at h
      exact ⟨Or.inl ⟨_,h.1.symm⟩,_,h.2.symm⟩
     ·cases h
   ·rw [if_neg hc] at h
    split at h
    ·cases h
    ·split at h
     ·cases h
     ·cases hl:iI (qT++ents) (c::q) with
      | none=>rw [hl] at h;cases h
      | some x=>
       rw [hl] at h
       simp only [cI,cC] at h
       exact ⟨Or.inr ⟨_,by rw [hl,h.1]⟩,_,h.2.symm⟩
theorem Lk:∀ q∈qT,q.2.length≤2147483647:=by
 intro q hq
 simp only [qT,List.mem_cons,List.not_mem_nil,or_false] at hq
 rcases hq with rfl|rfl|rfl|rfl|rfl<;>exact Nat.le_of_ble_eq_true rfl
theorem TF {ents:aO} (hl:pT ents) {rest t r:Bs} (h:kF ents rest=.ok (t,r)):t.length≤2147483647:=by
 rcases (TE h).1 with ⟨n,hn⟩|⟨k,hk⟩
 ·have h9:=Lj n
  rw [←hn] at h9
  exact h9
 ·obtain ⟨p,hp,he⟩:=WB hk
  rw [←he]
  rcases List.mem_append.1 hp with hp|hp
  ·exact Lk p hp
  ·exact hl p hp
theorem Wc {ents:aO} {rest t r:Bs} (h:kF ents rest=.ok (t,r)):r.length≤rest.length:=by
 obtain ⟨m,rfl⟩:=(TE h).2
 rw [List.length_drop];omega
theorem KD (x:PX) (hT:x.T.length≤1000000000) (base:Nat) (IT:base≤x.p) (ents:aO) (KU:pT ents) (w:World) (c:PC) (h:aU x w c) (ha:c.at'<x.T.length) (hE:sS x base ents w) :
  Calls prog 40 #[oM x] w (eT x w c (fun s=>.returned (.tuple #[aB s,.bool true])) (.returned (.tuple #[aB [],.bool false])) (fR ents (x.T.drop c.at'))):=by
 have HT:=Lh hT
 have HA:=Lh ha
 have HE:=Lh hE
 have H:=Lh h
 have xG:=Lh KU
 refine eJ 70 func40 [_] fun f=>?_
 simp only [aE]
 by_cases FT:x.T.getD c.at' 0=38
 ·have gM:([38]:Bs).isPrefixOf (x.T.drop c.at')=true:=by rw [cX 38 x.T c.at' ha,FT];rfl
  have HH:=Lh (jE x hT w c h (Nat.le_of_lt ha) [38] (by decide) gM)
  have HD:=Lh (EB ents ha FT)
  clear hT ha hE h KU gM FT
  (refine vg ?_;(repeat with_reducible intro K hK))
  refine HH.out.mono ?_
  rintro e3 w3 ⟨rfl,eK,cD⟩
  have eP:=Lh (show aU x w3 { c with at':=c.at'+1 } from eK)
  have fM:=Lh cD
  have LT:=Lh (Vz x HT.out base IT ents w3 { c with at':=c.at'+1 } eK HA.out (HE.out.below (aK.below (Below.refl _ w) (Nat.le_trans IT (Nat.le_of_lt (aJ.lt H.out))) cD (fun i hi=>by rw [hi];exact IT))))
  clear eK cD HH
  ((repeat revert K);refine vS ?_;(repeat with_reducible intro K hK))
  refine LT.out.mono ?_
  rintro e4 w4 h4
  obtain ⟨l5,h4⟩:=h4
  have o6:=Lh (fM.out.trans l5 (fun _ _ h=>h))
  clear l5 LT
  cases hr:kF ents (x.T.drop (c.at'+1)) with
  | error k=>
   rw [show ({ c with at':=c.at'+1 }:PC).at'=c.at'+1 from rfl,hr] at h4
   obtain ⟨⟨a4,tJ⟩,rfl⟩:=h4
   have xQ:=Lh tJ
   have HR:=Lh (show fR ents (x.T.drop c.at')=.error k by rw [HD.out,hr])
   clear tJ
   ((repeat revert K);refine vS ?_;intro K hK)
   (refine kX ?_)
   exact eT.bad HR.out xQ.out o6.out
  | ok q=>
   rw [show ({ c with at':=c.at'+1 }:PC).at'=c.at'+1 from rfl,hr] at h4
   obtain ⟨t,r⟩:=q
   obtain ⟨a4,T6,NQ,KC,tJ,rfl⟩:=h4
   have a4w:r=x.T.drop a4:=T6
   subst a4w
   have xQ:=Lh (show aU x w4 { c with at':=a4 } from tJ)
   have Pk:=Lh NQ
   have Uk:=Lh (show c.at'≤a4 by have:c.at'+1≤a4:=KC;omega)
   have HR:=Lh (show fR ents (x.T.drop c.at')=if bI t then .ok (t,x.T.drop a4) else .error .opn by rw [HD.out,hr])
   have HCH:=Lh (fun w=>MA t (by have:=TF xG.out hr;omega) w)
   have HF:=Lh (fun v=>mV x w4 { c with at':=a4 } tJ v)
   clear tJ hr T6 NQ KC
   ((repeat revert K);refine vS ?_;(repeat with_reducible intro K hK))
   refine (HCH.out _).mono ?_
   rintro e5 w5 ⟨rfl,rfl⟩
   go_simp
   cases R0:bI t with
   | true=>
    have fB:=Lh (HR.out.trans (if_pos R0))
    ((repeat revert K);refine vg ?_;intro K hK)
    (refine kX ?_)
    exact eT.okk (v:=t) fB.out Pk.out Uk.out xQ.out o6.out
   | false=>
    have fB:=Lh (HR.out.trans (if_neg (by rw [R0];simp)))
    ((repeat revert K);refine vg ?_;(repeat with_reducible intro K hK))
    refine (HF.out _).mono ?_
    rintro e6 w6 ⟨rfl,gD,eQ⟩
    have jS:=Lh gD
    have jU:=Lh (o6.out.trans eQ (fun _ _ h=>h))
    clear gD eQ
    ((repeat revert K);refine vS ?_;(repeat with_reducible intro K hK))
    (refine kX ?_)
    exact eT.bad (k:=.opn) fB.out jS.out jU.out
 ·have gM:([38]:Bs).isPrefixOf (x.T.drop c.at')=false:=by rw [cX 38 x.T c.at' ha,beq_eq_false_iff_ne];exact fun hh=>FT hh.symm
  have HH:=Lh (iP x hT w c h (Nat.le_of_lt ha) [38] (by decide) gM)
  have HD:=Lh (EC ents ha FT)
  have cB:x.T.drop c.at'≠[]:=fun hh=>by have:=congrArg List.length hh;simp at this;omega
  have HW:=Lh (m9 (x.T.drop c.at') cB)
  have Wd:=Lh (fun w=>nW (x.T.drop c.at') cB w)
  have z1:(0:Int)≤(c.at':Int):=by omega
  have z3:(c.at':Int)≤(x.T.length:Int):=by omega
  clear hT ha hE h KU gM FT cB
  obtain ⟨r,hr⟩:∃ r,r=(aF (x.T.drop c.at')).1:=⟨_,rfl⟩
  obtain ⟨n,hn⟩:∃ n,n=(aF (x.T.drop c.at')).2:=⟨_,rfl⟩
  rw [←hr] at HD Wd
  rw [←hn] at HD HW Wd
  clear hr hn
  (refine vg ?_;(repeat with_reducible intro K hK))
  refine HH.out.mono ?_
  rintro e3 w3 ⟨rfl,eK,cD⟩
  have eP:=Lh eK
  have fM:=Lh cD
  clear eK cD HH
  have hc:=eP.out.cell
  have hf:=eP.out.frozen
  ((repeat revert K);refine vS ?_;intro K hK)
  (refine aI [0,0,0,1,0,0,0,1,0,2,0,0,0,0,0] [0,1,2,3,4,5,6,7,8,9,10,11,12,13,14] (by kernel_rfl) (by kernel_rfl) ?_;refine vP ?_;repeat with_reducible intro nq)
  rw [jI]
  (refine bK rfl rfl (fun nq K hK=>?_);go_simp)
  refine (Wd.out _).mono ?_
  rintro e4 w4 ⟨rfl,rfl⟩
  (go_simp;refine hK.out _ _ ?_;clear hK K)
  (refine vP ?_;repeat with_reducible intro nq)
  have HF:=Lh (fun (w':World) (h1:aU x w' c) (h2:aK (fun k=>k=x.p) w w') (v:Int)=>mO x w w' c h1 h2 v)
  by_cases hn:n=0
  ·have fB:=Lh (HD.out.trans (if_pos (Or.inl hn)))
   subst hn
   (revert K;refine vg ?_;(repeat with_reducible intro K hK))
   refine (HF.out _ (by exact eP.out) (by exact eF fM.out rfl rfl rfl rfl) _).mono ?_
   rintro e8 w8 ⟨rfl,TA,kZ⟩
   have OW:=Lh TA
   have GY:=Lh kZ
   clear TA kZ
   ((repeat revert K);refine vS ?_;intro K hK)
   (refine kX ?_)
   exact eT.bad (k:=.bad) fB.out OW.out GY.out
  have pH:((n:Int)==0)=false:=by rw [beq_eq_false_iff_ne];omega
  have HN:=Lh hn
  have HIC:=Lh (fun w=>yA r w)
  clear hn
  (revert K;refine vg ?_;(repeat with_reducible intro K hK))
  refine (HIC.out _).mono ?_
  rintro e8 w8 ⟨rfl,rfl⟩
  go_simp
  cases JG:bU r with
  | false=>
   have fB:=Lh (HD.out.trans (if_pos (Or.inr JG)))
   ((repeat revert K);refine vg ?_;(repeat with_reducible intro K hK))
   refine (HF.out _ (by exact eP.out) (by exact eF fM.out rfl rfl rfl rfl) _).mono ?_
   rintro e8 w8 ⟨rfl,TA,kZ⟩
   have OW:=Lh TA
   have GY:=Lh kZ
   clear TA kZ
   ((repeat revert K);refine vS ?_;intro K hK)
   (refine kX ?_)
   exact eT.bad (k:=.bad) fB.out OW.out GY.out
  | true=>
   have fB:=Lh (HD.out.trans (if_neg (fun hh=>hh.elim HN.out (fun h=>Bool.noConfusion (JG.symm.trans h)))))
   have wn:IntKind.i64.wrap ((c.at':Int)+(n:Int))=(c.at':Int)+(n:Int):=by rw [IntKind.wrap_i64];have h1:=HW.out;have h2:=HT.out;rw [List.length_drop] at h1;omega
   have z4:(c.at':Int)≤(c.at':Int)+(n:Int):=by omega
   have z5:(c.at':Int)+(n:Int)≤(x.T.length:Int):=by have h1:=HW.out;rw [List.length_drop] at h1;omega
   have z6:(0:Int)≤(c.at':Int)+(n:Int):=by omega
   have wm:IntKind.i64.wrap (c.at':Int)=(c.at':Int):=by rw [IntKind.wrap_i64];have h1:=HA.out;have h2:=HT.out;omega
   have zn:((c.at':Int)+(n:Int)).toNat=c.at'+n:=by omega
   clear JG
   ((repeat revert K);refine vT 10 ?_)
   have hp9:∀ k,aU x ((w3.drewN k).setCell ⟨x.p,1,none⟩ (.int .i64 ((c.at':Int)+(n:Int)))) { c with at':=c.at'+n }:=fun k=>aJ.set (w:=w3.drewN k) (cs:=gV x c) eP.out 1 _
   have FZ:=Lh hp9
   clear hc hf
   have hc:=fun k=>(hp9 k).cell
   have hf:=fun k=>(hp9 k).frozen
   clear hp9
   (refine vg ?_;intro K hK)
   (refine aI [0,0,0,1,0,0,0,1,0,0,0,0,0,1,0,0,0] [0,1,2,3,4,5,6,7,8,9,10,11,12,13,14,15,16] (by kernel_rfl) (by kernel_rfl) ?_;refine vP ?_;repeat with_reducible intro nq)
   rw [lO,Nat.add_sub_cancel_left]
   (revert K;refine vg ?_)
   (refine kX ?_)
   exact eT.okk fB.out (by have h1:=HW.out;have h2:=HA.out;rw [List.length_drop] at h1;omega) (by omega) (FZ.out _) ((aK.setCell (S:=fun k=>k=x.p) (fM.out.drewN _) (p:=⟨x.p,1,none⟩) (Or.inl rfl) _).drewN _)
theorem NV (ents:aO) {T:Bs} {a m:Nat} {out:Bs} (h:T.length≤a):dK ents (m+1) (T.drop a) out=.ok (out,T.drop a):=by
 rw [List.drop_eq_nil_of_le h];rfl
theorem CI (ents:aO) {T:Bs} {a m:Nat} {out:Bs} (ha:a<T.length) (h:T.getD a 0=60):dK ents (m+1) (T.drop a) out=.ok (out,T.drop a):=by
 rw [bT T a ha]
 unfold dK
 simp only [if_pos h]
theorem yM (ents:aO) {T:Bs} {a m:Nat} {out:Bs} (ha:a<T.length) (lA:¬ T.getD a 0=60) (h:pZ.isPrefixOf (T.drop a)=true):dK ents (m+1) (T.drop a) out=.error .bad:=by
 rw [bT T a ha] at h ⊢
 unfold dK
 simp only [if_neg lA,if_pos h]
theorem CJ (ents:aO) {T:Bs} {a m:Nat} {out:Bs} (ha:a<T.length) (lA:¬ T.getD a 0=60) (h:pZ.isPrefixOf (T.drop a)=false) (fZ:T.getD a 0=13):dK ents (m+1) (T.drop a) out=if ([10]:Bs).isPrefixOf (T.drop (a+1)) then dK ents m (T.drop (a+2)) (out++[10]) else dK ents m (T.drop (a+1)) (out++[10]):=by
 rw [←S9 T a ha (fun r=>dK ents m r (out++[10]))]
 rw [bT T a ha] at h ⊢
 conv=>lhs;unfold dK
 simp only [lA,h,fZ,Bool.false_eq_true,if_false,if_true]
 rfl
theorem CK (ents:aO) {T:Bs} {a m:Nat} {out:Bs} (ha:a<T.length) (lA:¬ T.getD a 0=60) (h:pZ.isPrefixOf (T.drop a)=false) (fZ:¬ T.getD a 0=13):dK ents (m+1) (T.drop a) out=match fR ents (T.drop a) with
  | .error e=>.error e
  | .ok (t,r2)=>dK ents m r2 (out++t):=by
 rw [bT T a ha] at h ⊢
 conv=>lhs;unfold dK
 simp only [lA,h,fZ,Bool.false_eq_true,if_false]
 rfl
theorem rB {ents:aO} (hl:pT ents) {T t r:Bs} (hT:T.length≤2147483647) {a:Nat} (h:fR ents (T.drop a)=.ok (t,r)):t.length≤2147483647:=by
 by_cases ha:a<T.length
 ·by_cases FT:T.getD a 0=38
  ·rw [EB ents ha FT] at h
   split at h
   ·cases h
   ·rename_i hr
    split at h
    ·simp only [cI,cC] at h
     rw [←h.1]
     exact TF hl hr
    ·cases h
  ·rw [EC ents ha FT] at h
   split at h
   ·cases h
   ·simp only [cI,cC] at h
    rw [←h.1,List.length_take,List.length_drop]
    omega
 ·rw [NU ents (by omega)] at h;cases h
def a2i (x:PX) (c:PC) (ents:aO) (w0:World) (k:Nat) (ac:Act) (w:World):Prop:=
 ∃ f a o m,ac=fr 47 f [(0,oM x),(3,aB o)]∧aU x w { c with at':=a }∧aK (fun k=>k=x.p) w0 w∧k=x.T.length-a∧a≤x.T.length∧o.length≤a*2147483647∧x.T.length-a<m∧dK ents (x.T.length+1) (x.T.drop c.at') []=dK ents m (x.T.drop a) o
theorem pU {ents:aO} {T t r:Bs} {a:Nat} (h:fR ents (T.drop a)=.ok (t,r)):r.length<T.length-a:=by
 by_cases ha:a<T.length
 ·by_cases FT:T.getD a 0=38
  ·rw [EB ents ha FT] at h
   split at h
   ·cases h
   ·rename_i hr
    split at h
    ·simp only [cI,cC] at h
     have:=Wc hr
     rw [List.length_drop] at this
     rw [←h.2];omega
    ·cases h
  ·rw [EC ents ha FT] at h
   split at h
   ·cases h
   ·rename_i hn
    simp only [cI,cC] at h
    have:(aF (T.drop a)).2≠0:=fun hh=>hn (Or.inl hh)
    rw [←h.2,List.length_drop]
    omega
 ·rw [NU ents (by omega)] at h;cases h
theorem Ll (x:PX) (hT:x.T.length≤1000000000) (base:Nat) (ents:aO) (KU:pT ents) (w:World) (c:PC) (opens:List Bs) (bound:List aO) (out:List cH) (h:hY x base w c opens bound out) (bF:out.length≤1000000000) (ha:c.at'≤x.T.length) (hE:sS x base ents w) :
  Calls prog 18 #[oM x] w (gW x base out w (oV .text opens bound (dK ents (x.T.length+1) (x.T.drop c.at') []))):=by
 have H:=Lh h
 have HT:=Lh hT
 have HA:=Lh ha
 have cL:=Lh bF
 have HE:=Lh hE
 have xG:=Lh KU
 clear h hT ha bF hE KU
 refine eJ 47 func18 [_] fun f=>?_
 simp only [aE]
 (refine vg ?_;intro K hK)
 (refine cJ [0,3] fun f=>?_)
 refine wp_loop_ghost_k (a2i x c ents w) (x.T.length-c.at') ⟨f,c.at',[],x.T.length+1,rfl,H.out.blk,aK.refl _ w,rfl,HA.out,Nat.zero_le _,by omega,rfl⟩ ?_
 rintro k _ w2 ⟨f,a,o,m,rfl,hp,hm,hk,iK,BG,GN,rE⟩ J K2 hJ cY
 obtain ⟨m',rfl⟩:∃ m',m=m'+1:=⟨m-1,by omega⟩
 have HJ:=Lh hJ
 have dN:=Lh cY
 have HP:=Lh hp
 have HM:=Lh hm
 have HK:=Lh hk
 have kA:=Lh iK
 have xD:=Lh BG
 have sO:=Lh GN
 have vH:=Lh rE
 have a1:¬ 9223372036854775807<o.length+1:=by have:=HT.out;omega
 clear hJ cY hp hm hk iK BG GN rE
 have Pn:∀ w3,aU x w3 { c with at':=a }→aK (fun k=>k=x.p) w w3→dK ents (m'+1) (x.T.drop a) o=.ok (o,x.T.drop a)→Calls prog 41 #[oM x,V5 ((aP.text o).itok []) none 0 0 0] w3 fun e w'=>e=.returned (.bool true)∧gW x base out w (oV .text opens bound (dK ents (x.T.length+1) (x.T.drop c.at') [])) (.returned (.bool true)) w':=by
  intro w3 eK cD hr
  exact vK x base w w3 c opens bound out H.out cL.out a kA.out eK cD (.text o) rfl _ (by rw [vH.out,hr];rfl)
 have Po:=Lh Pn
 clear Pn
 by_cases bB:a<x.T.length
 rotate_left
 ·have AG:=Lh (fun kk=>qC x (w2.drewN kk) { c with at':=a } HP.out (by simp;omega))
  (revert K;refine vg ?_;(repeat with_reducible intro K hK))
  (refine aI [0,2,0,0,0,0,0,1,0,0,0,1,0,0,0] [0,1,2,3,4,5,6,7,8,9,10,11,12,13,14] (by kernel_rfl) (by kernel_rfl) ?_;refine vP ?_;repeat with_reducible intro nq)
  (refine bK rfl rfl (fun nq K hK=>?_);go_simp)
  refine (AG.out _).mono ?_
  rintro e3 w3 ⟨rfl,k3,rfl⟩
  (go_simp;refine hK.out _ _ ?_;clear hK K)
  (refine vP ?_;repeat with_reducible intro nq)
  ((repeat revert K);refine vg ?_;(repeat with_reducible intro K hK))
  refine (Po.out _ (by exact HP.out) (by exact eF HM.out rfl rfl rfl rfl) (NV ents (by omega))).mono ?_
  rintro e6 w6 ⟨rfl,h6⟩
  have H6:=Lh h6
  clear h6
  ((repeat revert K);refine vS ?_)
  (refine cW ?_)
  exact H6.out
 have AG:=Lh (fun kk=>qD x (w2.drewN kk) { c with at':=a } HP.out bB)
 have t0:(0:Int)≤(a:Int):=by omega
 have t1:(a:Int)<(x.T.length:Int):=by omega
 obtain ⟨b,hb⟩:∃ b,b=x.T.getD a 0:=⟨_,rfl⟩
 have ix:∀ h,(⟨x.T.toArray⟩:ByteArray)[a]'h=b:=by rw [hb];exact jG x.T a bB
 have pO:=Lh hb
 clear hb
 by_cases lA:b=60
 ·have HR:=Lh (CI ents (m:=m') (out:=o) bB (by rw [←pO.out];exact lA))
  subst lA
  (revert K;refine vg ?_;(repeat with_reducible intro K hK))
  (refine aI [0,2,0,0,0,0,0,1,0,0,0,1,0,0,0] [0,1,2,3,4,5,6,7,8,9,10,11,12,13,14] (by kernel_rfl) (by kernel_rfl) ?_;refine vP ?_;repeat with_reducible intro nq)
  (refine bK rfl rfl (fun nq K hK=>?_);go_simp)
  refine (AG.out _).mono ?_
  rintro e3 w3 ⟨rfl,k3,rfl⟩
  have hc:=HP.out.cell
  have hf:=HP.out.frozen
  (go_simp;refine hK.out _ _ ?_;clear hK K)
  (refine vP ?_;repeat with_reducible intro nq)
  ((repeat revert K);refine vg ?_;(repeat with_reducible intro K hK))
  refine (Po.out _ (by exact HP.out) (by exact eF HM.out rfl rfl rfl rfl) HR.out).mono ?_
  rintro e6 w6 ⟨rfl,h6⟩
  have H6:=Lh h6
  clear h6
  ((repeat revert K);refine vS ?_)
  (refine cW ?_)
  exact H6.out
 have Cw:((b.toNat:Int) != 60)=true:=Cv lA
 have WC:=Lh (show ¬ x.T.getD a 0=60 by rw [←pO.out];exact lA)
 clear lA
 have a4x:=Lh (fun (w:World) (h:aU x w { c with at':=a })=>zI x HT.out w { c with at':=a } h kA.out [93,93,62] (by decide))
 have a2j:=Lh (fun (w:World) (h:aU x w { c with at':=a })=>zI x HT.out w { c with at':=a } h kA.out [13,10] (by decide))
 have HCR:=Lh (fun (w:World) (h:aU x w { c with at':=a })=>zI x HT.out w { c with at':=a } h kA.out [13] (by decide))
 (revert K;refine vg ?_;(repeat with_reducible intro K hK))
 (refine aI [0,2,0,0,0,0,0,1,0,0,0,1,0,0,0] [0,1,2,3,4,5,6,7,8,9,10,11,12,13,14] (by kernel_rfl) (by kernel_rfl) ?_;refine vP ?_;repeat with_reducible intro nq)
 (refine bK rfl rfl (fun nq K hK=>?_);go_simp)
 refine (AG.out _).mono ?_
 rintro e3 w3 ⟨rfl,k3,rfl⟩
 have hc:=HP.out.cell
 have hf:=HP.out.frozen
 (go_simp;refine hK.out _ _ ?_;clear hK K)
 (refine vP ?_;repeat with_reducible intro nq)
 clear hc hf ix
 ((repeat revert K);refine vg ?_;(repeat with_reducible intro K hK))
 refine (a4x.out _ (by exact HP.out)).mono ?_
 rintro e4 w4 ⟨rfl,tJ,l5⟩
 rw [show ({ c with at':=a }:PC).at'=a from rfl] at tJ ⊢
 have o6:=Lh (show aK (fun k=>k=x.p) w w4 from aK.trans (HM.out.drewN _) l5 (fun _ _ h=>h))
 clear l5
 go_simp
 cases WD:([93,93,62]:Bs).isPrefixOf (x.T.drop a) with
 | true=>
  rw [WD,if_pos rfl] at tJ
  have HR:=Lh (vH.out.trans (yM ents (m:=m') (out:=o) bB WC.out WD))
  have HF:=Lh (mV x w4 _ tJ 1)
  clear tJ WD
  ((repeat revert K);refine vg ?_;(repeat with_reducible intro K hK))
  refine HF.out.mono ?_
  rintro e6 w6 ⟨rfl,gD,eQ⟩
  have jS:=Lh gD
  have jU:=Lh (o6.out.trans eQ (fun _ _ h=>h))
  clear gD eQ
  ((repeat revert K);refine vS ?_;(repeat with_reducible intro K hK))
  (refine cW ?_)
  exact gW.err (w1:=w) (k:=.bad) H.out jS.out jU.out (by rw [HR.out];rfl)
 | false=>
  rw [WD,if_neg (by simp)] at tJ
  have xQ:=Lh (show aU x w4 { c with at':=a } from tJ)
  have nM:=Lh WD
  clear tJ WD
  ((repeat revert K);refine vg ?_;(repeat with_reducible intro K hK))
  refine (a2j.out _ xQ.out).mono ?_
  rintro e5 w5 ⟨rfl,nZ,fL⟩
  rw [show ({ c with at':=a }:PC).at'=a from rfl] at nZ ⊢
  have pY:=Lh (o6.out.trans fL (fun _ _ h=>h))
  clear fL
  go_simp
  by_cases fZ:x.T.getD a 0=13
  ·have HR:=Lh (vH.out.trans (CJ ents (m:=m') (out:=o) bB WC.out nM.out fZ))
   cases gN:([10]:Bs).isPrefixOf (x.T.drop (a+1)) with
   | true=>
    have GX:([13,10]:Bs).isPrefixOf (x.T.drop a)=true:=by rw [vL 13 10 x.T a bB,fZ,gN];rfl
    have tI:=Lh (qE GX kA.out)
    have fB:=Lh (HR.out.trans (if_pos gN))
    rw [GX,if_pos rfl] at nZ
    rw [GX]
    have rL:=Lh (show aU x w5 { c with at':=a+2 } from nZ)
    clear GX gN fZ nZ
    ((repeat revert K);refine vg ?_;(repeat with_reducible intro K hK))
    (refine Kk [0,3] fun f=>?_)
    rw [CD]
    exact dN.out _ _ ⟨x.T.length-(a+2),by rw [HK.out];omega,HJ.out _ _ _ ⟨f,a+2,o++[10],m',rfl,rL.out,pY.out,rfl,by have:=tI.out;simpa using this,by have:=xD.out;rw [List.length_append];simp;omega,by have:=sO.out;omega,fB.out⟩⟩
   | false=>
    have GQ:([13,10]:Bs).isPrefixOf (x.T.drop a)=false:=by rw [vL 13 10 x.T a bB,fZ,gN];rfl
    have GX:([13]:Bs).isPrefixOf (x.T.drop a)=true:=by rw [cX 13 x.T a bB,fZ];rfl
    have fB:=Lh (HR.out.trans (if_neg (by rw [gN];simp)))
    rw [GQ,if_neg (by simp)] at nZ
    rw [GQ]
    have rL:=Lh (show aU x w5 { c with at':=a } from nZ)
    have HPP:=Lh GX
    clear GX gN fZ nZ GQ
    ((repeat revert K);refine vg ?_;(repeat with_reducible intro K hK))
    refine (HCR.out _ rL.out).mono ?_
    rintro e6 w6 ⟨rfl,gD,eQ⟩
    rw [show ({ c with at':=a }:PC).at'=a from rfl,HPP.out] at gD ⊢
    rw [if_pos rfl] at gD
    have jS:=Lh (show aU x w6 { c with at':=a+1 } from gD)
    have jU:=Lh (pY.out.trans eQ (fun _ _ h=>h))
    clear gD eQ
    ((repeat revert K);refine vS ?_;(repeat with_reducible intro K hK))
    (refine Kk [0,3] fun f=>?_)
    rw [CD]
    exact dN.out _ _ ⟨x.T.length-(a+1),by rw [HK.out];omega,HJ.out _ _ _ ⟨f,a+1,o++[10],m',rfl,jS.out,jU.out,rfl,bB,by have:=xD.out;rw [List.length_append];simp;omega,by have:=sO.out;omega,fB.out⟩⟩
  ·have GQ:([13,10]:Bs).isPrefixOf (x.T.drop a)=false:=by rw [vL 13 10 x.T a bB,beq_eq_false_iff_ne.2 (fun h=>fZ h.symm)];rfl
   have Cm:([13]:Bs).isPrefixOf (x.T.drop a)=false:=by rw [cX 13 x.T a bB,beq_eq_false_iff_ne.2 (fun h=>fZ h.symm)]
   have HR:=Lh (vH.out.trans (CK ents (m:=m') (out:=o) bB WC.out nM.out fZ))
   rw [GQ,if_neg (by simp)] at nZ
   rw [GQ]
   have rL:=Lh (show aU x w5 { c with at':=a } from nZ)
   have HPP:=Lh Cm
   clear fZ nZ GQ Cm
   ((repeat revert K);refine vg ?_;(repeat with_reducible intro K hK))
   refine (HCR.out _ rL.out).mono ?_
   rintro e6 w6 ⟨rfl,gD,eQ⟩
   rw [show ({ c with at':=a }:PC).at'=a from rfl,HPP.out] at gD ⊢
   rw [if_neg (by simp)] at gD
   have jS:=Lh (show aU x w6 { c with at':=a } from gD)
   have jU:=Lh (pY.out.trans eQ (fun _ _ h=>h))
   have Yt:=Lh (KD x HT.out base H.out.pb ents xG.out w6 { c with at':=a } jS.out bB (HE.out.below (aK.below (Below.refl _ w) H.out.size jU.out (fun i hi=>by rw [hi];exact H.out.pb))))
   clear gD eQ
   ((repeat revert K);refine vS ?_;(repeat with_reducible intro K hK))
   refine Yt.out.mono ?_
   rintro e7 w7 h7
   obtain ⟨fU,h7⟩:=h7
   rw [show ({ c with at':=a }:PC).at'=a from rfl] at h7
   have KE:=Lh (jU.out.trans fU (fun _ _ h=>h))
   cases hr:fR ents (x.T.drop a) with
   | error k=>
    rw [hr] at h7
    obtain ⟨⟨a7,sU⟩,rfl⟩:=h7
    have CL:=Lh sU
    have fB:=Lh (show dK ents (x.T.length+1) (x.T.drop c.at') []=.error k by rw [HR.out,hr])
    clear sU fU
    ((repeat revert K);refine vS ?_;(repeat with_reducible intro K hK))
    (refine cW ?_)
    exact gW.err (w1:=w) (k:=k) H.out CL.out KE.out (by rw [fB.out];rfl)
   | ok q=>
    rw [hr] at h7
    obtain ⟨t,r⟩:=q
    obtain ⟨a7,NW,uV,ED,sU,rfl⟩:=h7
    have EE:r=x.T.drop a7:=NW
    subst EE
    have CL:=Lh (show aU x w7 { c with at':=a7 } from sU)
    have EF:=Lh uV
    have kG:=Lh (show a<a7 by have:=pU hr;rw [List.length_drop] at this;omega)
    have wM:=Lh (rB xG.out (by have:=HT.out;omega) hr)
    have fB:=Lh (show dK ents (x.T.length+1) (x.T.drop c.at') []=dK ents m' (x.T.drop a7) (o++t) by rw [HR.out,hr])
    have a2:¬ 9223372036854775807<o.length+t.length:=by have:=HT.out;have:=xD.out;have:=kA.out;have:=wM.out;omega
    clear sU fU hr NW uV ED
    ((repeat revert K);refine vS ?_;intro K hK)
    (refine Kk [0,3] fun f=>?_)
    rw [mP]
    exact dN.out _ _ ⟨x.T.length-a7,by rw [HK.out];have:=kG.out;have:=EF.out;omega,HJ.out _ _ _ ⟨f,a7,o++t,m',rfl,CL.out,KE.out,rfl,EF.out,by have:=xD.out;have:=wM.out;have:=kG.out;rw [List.length_append];omega,by have:=sO.out;have:=kG.out;have:=EF.out;omega,fB.out⟩⟩
end Go.Proofs.YtdjdjbpnbjdaaaaGreatDoor
