/- Part of the proof that laws.FnRawTokens returns true for every argument. No conditions. -/
import Derived.Test.YtdjdjbpnbjdaaaaGreatDoorP32
import Derived.Test.YtdjdjbpnbjdaaaaGreatDoorP28
set_option linter.all false
set_option maxHeartbeats 8000000
set_option maxRecDepth 100000
namespace Go.Proofs.YtdjdjbpnbjdaaaaGreatDoor
open Go Go.RowKit Tryz
theorem RA (ents:aO) {q:UInt8} {T:Bs} {a m:Nat} {out:Bs} (h:T.length≤a):t7 ents q (m+1) (T.drop a) out=.error .bad:=by
 rw [List.drop_eq_nil_of_le h];rfl
theorem RB (ents:aO) {q:UInt8} {T:Bs} {a m:Nat} {out:Bs} (ha:a<T.length) (h:T.getD a 0=q):t7 ents q (m+1) (T.drop a) out=.ok (out,T.drop (a+1)):=by
 rw [bT T a ha]
 show (if T.getD a 0=q then _ else _)=_
 rw [if_pos h]
theorem Cy (ents:aO) {q:UInt8} {T:Bs} {a m:Nat} {out:Bs} (ha:a<T.length) (h:¬ T.getD a 0=q) (h2:T.getD a 0=60):t7 ents q (m+1) (T.drop a) out=.error .bad:=by
 rw [bT T a ha]
 show (if T.getD a 0=q then _ else if T.getD a 0=60 then _ else _)=_
 rw [if_neg h,if_pos h2]
theorem Cz (ents:aO) {q:UInt8} {T:Bs} {a m:Nat} {out:Bs} (ha:a<T.length) (h:¬ T.getD a 0=q) (h2:¬ T.getD a 0=60) (h3:T.getD a 0≠32∧nO (T.getD a 0)=true):t7 ents q (m+1) (T.drop a) out=.error .opn:=by
 rw [bT T a ha]
 show (if T.getD a 0=q then _ else if T.getD a 0=60 then _ else if T.getD a 0≠32∧nO (T.getD a 0)=true then _ else _)=_
 rw [if_neg h,if_neg h2,if_pos h3]
theorem NX (ents:aO) {q:UInt8} {T:Bs} {a m:Nat} {out:Bs} (ha:a<T.length) (h:¬ T.getD a 0=q) (h2:¬ T.getD a 0=60) (h3:¬ (T.getD a 0≠32∧nO (T.getD a 0)=true)):t7 ents q (m+1) (T.drop a) out=match fR ents (T.drop a) with
  | .error e=>.error e
  | .ok (t,r2)=>t7 ents q m r2 (out++t):=by
 rw [bT T a ha]
 show (if T.getD a 0=q then _ else if T.getD a 0=60 then _ else if T.getD a 0≠32∧nO (T.getD a 0)=true then _ else _)=_
 rw [if_neg h,if_neg h2,if_neg h3]
 rfl
abbrev We:Array Value:=#[.string ⟨#[]⟩,.string ⟨#[]⟩,.string ⟨#[]⟩]
def Pp (x:PX) (c:PC) (ents:aO) (q:UInt8) (b2:Nat) (nm:Bs×Bs) (r0:Nat) (m0:Nat) (w0:World) (k:Nat) (ac:Act) (w:World):Prop:=
 ∃ f a o m,ac=fr 96 f [(0,oM x),(2,.pointer (some ⟨b2,0,none⟩)),(4,aB nm.1),(5,aB nm.2),(7,aB [q]),(8,aB o)]∧aU x w { c with at':=a }∧aJ w b2 We 64∧aK (fun k=>k=x.p) w0 w∧k=x.T.length-a∧a≤x.T.length∧c.at'≤a∧o.length≤a*2147483647∧x.T.length-a<m∧t7 ents q m0 (x.T.drop r0) []=t7 ents q m (x.T.drop a) o
theorem TG {R:Ending→World→Prop} {f:Nat→Value} {L:List (Nat×Value)} {w:World} {b2:Nat} {v1 v2 v3:Value} {bo:Bool} (h2:lk f L 2=.pointer (some ⟨b2,0,none⟩)) (h3:lk f L 3=.bool bo) (hb:aJ w b2 #[v1,v2,v3] 64) (h:R (.returned (.tuple #[.agg #[v1,v2,v3],.bool bo])) w):bodyPost prog Tryz.f54 R .ret (fr 96 f L) w:=by
 have hc:=hb.cell
 refine bodyPost_ret (v:=.tuple #[.agg #[v1,v2,v3],.bool bo]) ?_ (kN _ _ _) h
 rw [results_cell_tmp rfl,lF (by decide),lF (by decide),h2,h3]
 go_simp
abbrev Da (w:World) (b:Nat) (v1 v2 v3:Value):World:=((w.setCell ⟨b,0,none⟩ v1).setCell ⟨b,1,none⟩ v2).setCell ⟨b,2,none⟩ v3
theorem NY {w:World} {b:Nat} {cs:Array Value} {t:TypeId} (h:aJ w b cs t) (hs:cs.size=3) (v1 v2 v3:Value):aJ (Da w b v1 v2 v3) b #[v1,v2,v3] t:=by
 have:=((h.set 0 v1).set 1 v2).set 2 v3
 have e:((cs.setIfInBounds 0 v1).setIfInBounds 1 v2).setIfInBounds 2 v3=#[v1,v2,v3]:=by
  obtain ⟨l⟩:=cs
  match l,hs with
  | [a,b,c],_=>rfl
 rw [e] at this
 exact this
theorem TH {w:World} {b b2:Nat} {cs:Array Value} {t:TypeId} (h:aJ w b cs t) (hn:¬ b2=b) (v1 v2 v3:Value):aJ (Da w b2 v1 v2 v3) b cs t:=
 ((h.set_ne (a:=⟨b2,0,none⟩) (fun e=>hn e.symm) v1).set_ne (a:=⟨b2,1,none⟩) (fun e=>hn e.symm) v2).set_ne (a:=⟨b2,2,none⟩) (fun e=>hn e.symm) v3
theorem NZ {S:Nat→Prop} {w0 w:World} {b2:Nat} (h:aK S w0 w) (hb:w0.heap.size≤b2) (v1 v2 v3:Value):aK S w0 (Da w b2 v1 v2 v3):=
 ((h.setCell (p:=⟨b2,0,none⟩) (Or.inr hb) v1).setCell (p:=⟨b2,1,none⟩) (Or.inr hb) v2).setCell (p:=⟨b2,2,none⟩) (Or.inr hb) v3
abbrev a2k (a:eI):Ending:=.returned (.tuple #[.agg #[aB a.1,aB a.2.1,aB a.2.2],.bool true])
abbrev Pq:Ending:=.returned (.tuple #[.agg We,.bool false])
theorem jJ {x:PX} {w w3:World} {c:PC} {ents:aO} {k:SV} {a b2:Nat} {f:Nat→Value} {L:List (Nat×Value)} {cs:Array Value} (hr:eB ents (x.T.drop c.at')=.error k) (hp:aU x w3 { c with at':=a,verd:=k.num }) (hm:aK (fun k=>k=x.p) w w3) (hb:aJ w3 b2 cs 64) (hs:cs.size=3) (hn:¬ b2=x.p) (hf:w.heap.size≤b2)
  (h2:lk f L 2=.pointer (some ⟨b2,0,none⟩)) (h3:lk f L 3=.bool false):bodyPost prog Tryz.f54 (eT x w c a2k Pq (eB ents (x.T.drop c.at'))) .ret (fr 96 f L) (Da w3 b2 (.string ⟨#[]⟩) (.string ⟨#[]⟩) (.string ⟨#[]⟩)):=
 TG h2 h3 (NY hb hs _ _ _) (eT.bad hr (TH hp hn _ _ _) (NZ hm hf _ _ _))
theorem N0 {x:PX} {w w3:World} {c:PC} {ents:aO} {v:eI} {a b2:Nat} {f:Nat→Value} {L:List (Nat×Value)} {cs:Array Value} (hr:eB ents (x.T.drop c.at')=.ok (v,x.T.drop a)) (iK:a≤x.T.length) (vV:c.at'≤a) (hp:aU x w3 { c with at':=a }) (hm:aK (fun k=>k=x.p) w w3) (hb:aJ w3 b2 cs 64) (hs:cs.size=3) (hn:¬ b2=x.p) (hf:w.heap.size≤b2)
  (h2:lk f L 2=.pointer (some ⟨b2,0,none⟩)) (h3:lk f L 3=.bool true):bodyPost prog Tryz.f54 (eT x w c a2k Pq (eB ents (x.T.drop c.at'))) .ret (fr 96 f L) (Da w3 b2 (aB v.1) (aB v.2.1) (aB v.2.2)):=
 TG h2 h3 (NY hb hs _ _ _) (eT.okk (v:=v) hr iK vV (TH hp hn _ _ _) (NZ hm hf _ _ _))
theorem TI (x:PX) (w0 w1 w:World) (c:PC) (h:aU x w c) (hm:aK (fun k=>k=x.p) w0 w) (eA:aK (fun k=>k=x.p) w1 w) (v:Int):Calls prog 25 #[oM x,.int .i64 v] w fun e w'=>e=.returned (.bool false)∧aU x w' { c with verd:=v }∧aK (fun k=>k=x.p) w0 w'∧aK (fun k=>k=x.p) w1 w':=by
 refine (mV x w c h v).mono ?_
 rintro e w' ⟨rfl,h1,h2⟩
 exact ⟨rfl,h1,hm.trans h2 (fun _ _ h=>h),eA.trans h2 (fun _ _ h=>h)⟩
theorem Lm (x:PX) (hT:x.T.length ≤ 1000000000) (base:Nat) (IT:base ≤ x.p) (ents:aO) (KU:pT ents) (w:World) (c:PC) (h:aU x w c) (ha:c.at' ≤ x.T.length) (hE:sS x base ents w) :
    Calls prog 54 #[oM x] w (eT x w c (fun a:eI=>.returned (.tuple #[.agg #[aB a.1,aB a.2.1,aB a.2.2],.bool true])) (.returned (.tuple #[.agg We,.bool false])) (eB ents (x.T.drop c.at'))):=by
  obtain ⟨wa,jY⟩:∃ wa,wa=w.alloc (.cells We 64):=⟨_,rfl⟩
  have J7:aU x wa c:=by rw [jY];exact h.alloc _
  have k8:aJ wa w.heap.size We 64:=by rw [jY];exact aJ.new w _ _
  have S8:aK (fun k=>k=x.p) w wa:=by rw [jY];exact (aK.refl _ w).alloc _
  obtain ⟨b2,dJ⟩:∃ b2,b2=w.heap.size:=⟨_,rfl⟩
  have cB:¬ b2=x.p:=by have:=aJ.lt h;omega
  have HN:=Lh (J8 x hT wa c J7 ha)
  have HT:=Lh hT
  have HE:=Lh hE
  have xG:=Lh KU
  have tW:=Lh (show base ≤ w.heap.size from Nat.le_trans IT (Nat.le_of_lt (aJ.lt h)))
  have Q0:=Lh IT
  have Ci:=Lh S8
  rw [← dJ] at k8
  have s7:=Lh k8
  have kP:=Lh cB
  have HF:=Lh (show w.heap.size ≤ b2 by omega)
  have HAS:=Lh (show eB ents (x.T.drop c.at')=match iB (x.T.drop c.at') with
    | .error e=>.error e
    | .ok (nm,r)=>match aM r with
      | []=>.error .bad
      | b :: r2=>if b=61 then
          match aM r2 with
          | []=>.error .bad
          | q :: r3=>if q=34 ∨ q=39 then
              match t7 ents q (r3.length + 1) r3 [] with
              | .error e=>.error e
              | .ok (v,r4)=>.ok ((nm.1,nm.2,v),r4)
            else .error .bad
        else .error .bad from rfl)
  clear h hT hE KU IT ha S8 J7 k8 cB
  refine eJ 96 func54 [_] fun f=>?_
  simp only [aE]
  refine vT 1 ?_
  rw [← jY,← dJ]
  clear jY dJ
  (refine vg ?_;(repeat with_reducible intro K hK))
  refine HN.out.mono ?_
  rintro e1 w1 ⟨eA,h1⟩
  have oJ:=Lh (Ci.out.trans eA (fun _ _ h=>h))
  have fV:=Lh (s7.out.mod eA kP.out)
  clear eA HN Ci s7
  cases hn:iB (x.T.drop c.at') with
  | error k=>
    rw [hn] at h1 HAS
    obtain ⟨⟨a1,qH⟩,rfl⟩:=h1
    have KO:=Lh qH
    clear qH
    have hc:=fV.out.cell
    have hf:=fV.out.frozen
    have HR:=Lh (show eB ents (x.T.drop c.at')=.error k from HAS.out)
    ((repeat revert K);refine vS ?_;intro K hK)
    exact jJ (k:=k) HR.out KO.out oJ.out fV.out rfl kP.out HF.out (by simp only [aL,aQ,aS,bD,Nat.reduceEqDiff,↓reduceIte] <;> rfl) (by simp only [aL,aQ,aS,bD,Nat.reduceEqDiff,↓reduceIte] <;> rfl)
  | ok q=>
    obtain ⟨nm,r⟩:=q
    rw [hn] at h1 HAS
    obtain ⟨a1,mF,uU,AF,qH,rfl⟩:=h1
    have Db:r=x.T.drop a1:=mF
    subst Db
    have Uh:=Lh (show c.at' ≤ a1 from AF)
    have JN:=Lh (oF x HT.out w1 { c with at':=a1 } qH uU)
    clear qH mF uU AF
    ((repeat revert K);refine vS ?_;(repeat with_reducible intro K hK))
    refine JN.out.mono ?_
    rintro e2 w2 ⟨a2,rfl,mG,iA,EG,DU,mX⟩
    have F7:=Lh (show aU x w2 { c with at':=a2 } from mG)
    have wS:=Lh (oJ.out.trans iA (fun _ _ h=>h))
    have nK:=Lh (fV.out.mod iA kP.out)
    have tI:=Lh EG
    have Fr:=Lh (show c.at' ≤ a2 by have:=Uh.out;have:a1 ≤ a2:=DU;omega)
    have a2l:=Lh (show eB ents (x.T.drop c.at')=match x.T.drop a2 with
      | []=>.error .bad
      | b :: r2=>if b=61 then
          match aM r2 with
          | []=>.error .bad
          | q :: r3=>if q=34 ∨ q=39 then
              match t7 ents q (r3.length + 1) r3 [] with
              | .error e=>.error e
              | .ok (v,r4)=>.ok ((nm.1,nm.2,v),r4)
            else .error .bad
        else .error .bad by
      rw [HAS.out]
      simp only
      rw [show aM (x.T.drop a1)=x.T.drop a2 from mX]
      rfl)
    clear mG iA EG DU mX JN oJ fV
    go_simp
    cases CZ:([61]:Bs).isPrefixOf (x.T.drop a2) with
    | false=>
      have HH:=Lh (iP x HT.out w2 { c with at':=a2 } F7.out tI.out [61] (by decide) CZ)
      have HR:=Lh (show eB ents (x.T.drop c.at')=.error .bad by
        rw [a2l.out]
        by_cases KT:a2 < x.T.length
        · have gN:¬ x.T.getD a2 0=61:=by
            intro hh
            have h9:=cX 61 x.T a2 KT
            rw [CZ,hh] at h9
            cases h9
          rw [bT x.T a2 KT]
          simp only [if_neg gN]
        · rw [List.drop_eq_nil_of_le (by omega)])
      clear CZ
      ((repeat revert K);refine vg ?_;(repeat with_reducible intro K hK))
      refine HH.out.mono ?_
      rintro e3 w3 ⟨rfl,eK,cD⟩
      have fM:=Lh (wS.out.trans cD (fun _ _ h=>h))
      have lJ:=Lh (nK.out.mod cD kP.out)
      have HFB:=Lh (TI x w w3 w3 { c with at':=a2 } eK fM.out (aK.refl _ w3) 1)
      clear eK cD HH
      ((repeat revert K);refine vS ?_;(repeat with_reducible intro K hK))
      refine HFB.out.mono ?_
      rintro e5 w5 ⟨rfl,nZ,fL⟩
      have FZ:=Lh nZ
      have tG:=Lh fL.1
      have pF:=Lh (lJ.out.mod fL.2 kP.out)
      clear nZ fL
      have hc:=pF.out.cell
      have hf:=pF.out.frozen
      ((repeat revert K);refine vS ?_;intro K hK)
      exact jJ (k:=.bad) HR.out FZ.out tG.out pF.out rfl kP.out HF.out (by simp only [aL,aQ,aS,bD,Nat.reduceEqDiff,↓reduceIte] <;> rfl) (by simp only [aL,aQ,aS,bD,Nat.reduceEqDiff,↓reduceIte] <;> rfl)
    | true=>
      have HH:=Lh (jE x HT.out w2 { c with at':=a2 } F7.out tI.out [61] (by decide) CZ)
      have bB:=lU CZ (by decide)
      have a4y:=Lh (show eB ents (x.T.drop c.at')=match aM (x.T.drop (a2 + 1)) with
          | []=>.error .bad
          | q :: r3=>if q=34 ∨ q=39 then
              match t7 ents q (r3.length + 1) r3 [] with
              | .error e=>.error e
              | .ok (v,r4)=>.ok ((nm.1,nm.2,v),r4)
            else .error .bad by
        have h9:=cX 61 x.T a2 bB
        rw [CZ] at h9
        have gN:x.T.getD a2 0=61:=(beq_iff_eq.1 h9.symm).symm
        rw [a2l.out,bT x.T a2 bB,gN]
        rfl)
      have zW:=Lh bB
      clear CZ bB
      ((repeat revert K);refine vg ?_;(repeat with_reducible intro K hK))
      refine HH.out.mono ?_
      rintro e3 w3 ⟨rfl,eK,cD⟩
      have fM:=Lh (wS.out.trans cD (fun _ _ h=>h))
      have lJ:=Lh (nK.out.mod cD kP.out)
      have JN:=Lh (oF x HT.out w3 { c with at':=a2 + 1 } eK zW.out)
      clear eK cD HH
      ((repeat revert K);refine vS ?_;(repeat with_reducible intro K hK))
      refine JN.out.mono ?_
      rintro e4 w4 ⟨a4,rfl,tJ,l5,NQ,KC,mX⟩
      have xQ:=Lh (show aU x w4 { c with at':=a4 } from tJ)
      have o6:=Lh (fM.out.trans l5 (fun _ _ h=>h))
      have C7:=Lh (lJ.out.mod l5 kP.out)
      have Pk:=Lh NQ
      have Uk:=Lh (show c.at' ≤ a4 by have:=Fr.out;have:a2 + 1 ≤ a4:=KC;omega)
      have Wf:=Lh (show eB ents (x.T.drop c.at')=match x.T.drop a4 with
          | []=>.error .bad
          | q :: r3=>if q=34 ∨ q=39 then
              match t7 ents q (r3.length + 1) r3 [] with
              | .error e=>.error e
              | .ok (v,r4)=>.ok ((nm.1,nm.2,v),r4)
            else .error .bad by
        rw [a4y.out,show aM (x.T.drop (a2 + 1))=x.T.drop a4 from mX]
        rfl)
      clear tJ l5 NQ KC mX JN fM lJ
      go_simp
      cases Pr:([34]:Bs).isPrefixOf (x.T.drop a4) with
      | true=>
        have HH:=Lh (jE x HT.out w4 { c with at':=a4 } xQ.out Pk.out [34] (by decide) Pr)
        have bB:=lU Pr (by decide)
        have JO := Lh (show eB ents (x.T.drop c.at') = match t7 ents 34 ((x.T.drop (a4 + 1)).length + 1) (x.T.drop (a4 + 1)) [] with
              | .error e=>.error e
              | .ok (v,r4)=>.ok ((nm.1,nm.2,v),r4) by
          have h9:=cX 34 x.T a4 bB
          rw [Pr] at h9
          have gN:x.T.getD a4 0=34:=(beq_iff_eq.1 h9.symm).symm
          rw [Wf.out,bT x.T a4 bB,gN]
          rfl)
        have Wg:=Lh (show a4 + 1 ≤ x.T.length from bB)
        clear Pr bB
        ((repeat revert K);refine vg ?_;(repeat with_reducible intro K hK))
        refine HH.out.mono ?_
        rintro e5 w5 ⟨rfl,nZ,fL⟩
        have rL:=Lh (show aU x w5 { c with at':=a4 + 1 } from nZ)
        have pY:=Lh (o6.out.trans fL (fun _ _ h=>h))
        have vQ:=Lh (C7.out.mod fL kP.out)
        clear nZ fL HH
        ((repeat revert K);refine vS ?_;intro K hK)
        (refine cJ [0,2,4,5,7,8] fun f=>?_)
        refine wp_loop_ghost_k (Pp x c ents 34 b2 nm (a4 + 1) ((x.T.drop (a4 + 1)).length + 1) w) (x.T.length - (a4 + 1)) ⟨f,a4 + 1,[],(x.T.drop (a4 + 1)).length + 1,rfl,rL.out,vQ.out,pY.out,rfl,Wg.out,by have:=Uk.out;omega,Nat.zero_le _,by rw [List.length_drop];omega,rfl⟩ ?_
        rintro k _ w2 ⟨f,a,o,m,rfl,hp,dJ,hm,hk,iK,vV,BG,GN,rE⟩ J K2 hJ cY
        obtain ⟨m',rfl⟩:∃ m',m=m' + 1:=⟨m - 1,by omega⟩
        have HJ:=Lh hJ
        have dN:=Lh cY
        have HP:=Lh hp
        have HB:=Lh dJ
        have HM:=Lh hm
        have HK:=Lh hk
        have kA:=Lh iK
        have sN:=Lh vV
        have xD:=Lh BG
        have sO:=Lh GN
        have vH:=Lh rE
        clear hJ cY hp dJ hm hk iK vV BG GN rE
        have RC:=Lh (fun (w3 w':World) (h1:aU x w' { c with at':=a }) (h2:aK (fun k=>k=x.p) w w') (h3:aK (fun k=>k=x.p) w3 w') (v:Int)=>TI x w w3 w' { c with at':=a } h1 h2 h3 v)
        cases hq:([34]:Bs).isPrefixOf (x.T.drop a) with
        | true=>
          have HH:=Lh (jE x HT.out w2 { c with at':=a } HP.out kA.out [34] (by decide) hq)
          have bB:=lU hq (by decide)
          have KB:x.T.getD a 0=34:=by
            have h9:=cX 34 x.T a bB
            rw [hq] at h9
            exact (beq_iff_eq.1 h9.symm).symm
          have HR:=Lh (show eB ents (x.T.drop c.at')=.ok ((nm.1,nm.2,o),x.T.drop (a + 1)) by rw [JO.out,vH.out,RB ents bB KB])
          have zW:=Lh bB
          clear hq bB KB
          (revert K;refine vg ?_;(repeat with_reducible intro K hK))
          refine HH.out.mono ?_
          rintro e3 w3 ⟨rfl,eK,cD⟩
          have eP:=Lh (show aU x w3 { c with at':=a + 1 } from eK)
          have lJ:=Lh (HB.out.mod cD kP.out)
          have fM:=Lh (HM.out.trans cD (fun _ _ h=>h))
          clear eK cD HH
          have hc:=lJ.out.cell
          have hf:=lJ.out.frozen
          ((repeat revert K);refine vS ?_)
          exact N0 (v:=(nm.1,nm.2,o)) HR.out zW.out (by have:=sN.out;omega) eP.out fM.out lJ.out rfl kP.out HF.out (by simp only [aL,aQ,aS,bD,Nat.reduceEqDiff,↓reduceIte] <;> rfl) (by simp only [aL,aQ,aS,bD,Nat.reduceEqDiff,↓reduceIte] <;> rfl)
        | false=>
          have HH:=Lh (iP x HT.out w2 { c with at':=a } HP.out kA.out [34] (by decide) hq)
          (revert K;refine vg ?_;(repeat with_reducible intro K hK))
          refine HH.out.mono ?_
          rintro e3 w3 ⟨rfl,eK,cD⟩
          have eP:=Lh (show aU x w3 { c with at':=a } from eK)
          have lJ:=Lh (HB.out.mod cD kP.out)
          have fM:=Lh (HM.out.trans cD (fun _ _ h=>h))
          clear eK cD HH
          go_simp
          by_cases bB:a < x.T.length
          rotate_left
          · have AG:=Lh (fun kk=>qC x (w3.drewN kk) { c with at':=a } eP.out (by simp;omega))
            have HR:=Lh (show eB ents (x.T.drop c.at')=.error .bad by rw [JO.out,vH.out,RA ents (by omega)])
            ((repeat revert K);refine vg ?_;(repeat with_reducible intro K hK))
            (refine aI [0,2,0,0,0,0,1,0,0,0,1,0,0,0] [0,1,2,3,4,5,6,7,8,9,10,11,12,13] (by kernel_rfl) (by kernel_rfl) ?_;refine vP ?_;repeat with_reducible intro nq)
            (refine bK rfl rfl (fun nq K hK=>?_);go_simp)
            refine (AG.out _).mono ?_
            rintro e4 w4 ⟨rfl,k4,rfl⟩
            (go_simp;refine hK.out _ _ ?_;clear hK K)
            (refine vP ?_;repeat with_reducible intro nq)
            ((repeat revert K);refine vg ?_;(repeat with_reducible intro K hK))
            refine (RC.out w3 _ (by exact eP.out) (by exact eF fM.out rfl rfl rfl rfl) (by exact eF (aK.refl _ w3) rfl rfl rfl rfl) _).mono ?_
            rintro e5 w5 ⟨rfl,nZ,fL⟩
            have FZ:=Lh nZ
            have tG:=Lh fL.1
            have pF:=Lh (lJ.out.mod fL.2 kP.out)
            clear nZ fL
            have hc:=pF.out.cell
            have hf:=pF.out.frozen
            ((repeat revert K);refine vS ?_;(repeat with_reducible intro K hK))
            exact jJ (k:=.bad) HR.out FZ.out tG.out pF.out rfl kP.out HF.out (by simp only [aL,aQ,aS,bD,Nat.reduceEqDiff,↓reduceIte] <;> rfl) (by simp only [aL,aQ,aS,bD,Nat.reduceEqDiff,↓reduceIte] <;> rfl)
          have OT:¬ x.T.getD a 0=34:=by
            intro hh
            have h9:=cX 34 x.T a bB
            rw [hq,hh] at h9
            simp at h9
          have Ln:=Lh OT
          have AG:=Lh (fun kk=>qD x (w3.drewN kk) { c with at':=a } eP.out bB)
          have t0:(0:Int) ≤ (a:Int):=by omega
          have t1:(a:Int) < (x.T.length:Int):=by omega
          obtain ⟨b,hb⟩:∃ b,b=x.T.getD a 0:=⟨_,rfl⟩
          have ix:∀ h,(⟨x.T.toArray⟩:ByteArray)[a]'h=b:=by rw [hb];exact jG x.T a bB
          have pO:=Lh hb
          clear hb OT hq
          by_cases lA:b=60
          · have HR:=Lh (show eB ents (x.T.drop c.at')=.error .bad by rw [JO.out,vH.out,Cy ents bB Ln.out (by rw [← pO.out];exact lA)])
            subst lA
            ((repeat revert K);refine vg ?_;(repeat with_reducible intro K hK))
            (refine aI [0,2,0,0,0,0,1,0,0,0,1,0,0,0] [0,1,2,3,4,5,6,7,8,9,10,11,12,13] (by kernel_rfl) (by kernel_rfl) ?_;refine vP ?_;repeat with_reducible intro nq)
            (refine bK rfl rfl (fun nq K hK=>?_);go_simp)
            refine (AG.out _).mono ?_
            rintro e4 w4 ⟨rfl,k4,rfl⟩
            have hc:=eP.out.cell
            have hf:=eP.out.frozen
            (go_simp;refine hK.out _ _ ?_;clear hK K)
            (refine vP ?_;repeat with_reducible intro nq)
            clear hc hf
            ((repeat revert K);refine vg ?_;(repeat with_reducible intro K hK))
            refine (RC.out w3 _ (by exact eP.out) (by exact eF fM.out rfl rfl rfl rfl) (by exact eF (aK.refl _ w3) rfl rfl rfl rfl) _).mono ?_
            rintro e5 w5 ⟨rfl,nZ,fL⟩
            have FZ:=Lh nZ
            have tG:=Lh fL.1
            have pF:=Lh (lJ.out.mod fL.2 kP.out)
            clear nZ fL
            have hc:=pF.out.cell
            have hf:=pF.out.frozen
            ((repeat revert K);refine vS ?_;(repeat with_reducible intro K hK))
            exact jJ (k:=.bad) HR.out FZ.out tG.out pF.out rfl kP.out HF.out (by simp only [aL,aQ,aS,bD,Nat.reduceEqDiff,↓reduceIte] <;> rfl) (by simp only [aL,aQ,aS,bD,Nat.reduceEqDiff,↓reduceIte] <;> rfl)
          have Cw:((b.toNat:Int) == 60)=false:=pP lA
          have WC:=Lh (show ¬ x.T.getD a 0=60 by rw [← pO.out];exact lA)
          clear lA
          ((repeat revert K);refine vg ?_;(repeat with_reducible intro K hK))
          (refine aI [0,2,0,0,0,0,1,0,0,0,1,0,0,0] [0,1,2,3,4,5,6,7,8,9,10,11,12,13] (by kernel_rfl) (by kernel_rfl) ?_;refine vP ?_;repeat with_reducible intro nq)
          (refine bK rfl rfl (fun nq K hK=>?_);go_simp)
          refine (AG.out _).mono ?_
          rintro e4 w4 ⟨rfl,k4,rfl⟩
          have hc:=eP.out.cell
          have hf:=eP.out.frozen
          (go_simp;refine hK.out _ _ ?_;clear hK K)
          (refine vP ?_;repeat with_reducible intro nq)
          ((repeat revert K);refine vg ?_;(repeat with_reducible intro K hK))
          go_quiet (fail)
          clear hc hf
          have N1:∀ w7,aU x w7 { c with at':=a } → aJ w7 b2 We 64 → aK (fun k=>k=x.p) w w7 → Calls prog 40 #[oM x] w7 fun e w8=>eT x w7 { c with at':=a } (fun s=>.returned (.tuple #[aB s,.bool true])) (.returned (.tuple #[aB [],.bool false])) (fR ents (x.T.drop a)) e w8:=fun w7 h1 _ h3=>
            KD x HT.out base Q0.out ents xG.out w7 { c with at':=a } h1 bB (HE.out.below (aK.below (Below.refl _ w) tW.out h3 (fun i hi=>by rw [hi];exact Q0.out)))
          have N2:=Lh N1
          clear N1
          have oK:=Lh (fun w=>zJ b w)
          by_cases F9:b=32
          · have EH:¬ (x.T.getD a 0 ≠ 32∧nO (x.T.getD a 0)=true):=fun hh=>hh.1 (by rw [← pO.out];exact F9)
            have HR:=Lh (show t7 ents 34 ((x.T.drop (a4 + 1)).length + 1) (x.T.drop (a4 + 1)) []=_ from vH.out.trans (NX ents bB Ln.out WC.out EH))
            have Wh:((b.toNat:Int) != 32)=false:=by rw [F9];rfl
            clear EH F9
            ((repeat revert K);refine vg ?_;(repeat with_reducible intro K hK))
            refine (N2.out _ (by exact eP.out) (by exact lJ.out) (by exact eF fM.out rfl rfl rfl rfl)).mono ?_
            rintro e7 w7 ⟨fU,h7⟩
            have FB:=Lh (aJ.mod (S:=fun k=>k=x.p) lJ.out (show aK (fun k=>k=x.p) w3 w7 from ⟨fU.os,fU.tape,fU.output,fU.size,fU.block⟩) kP.out)
            have KE:=Lh (fM.out.trans (show aK (fun k=>k=x.p) w3 w7 from ⟨fU.os,fU.tape,fU.output,fU.size,fU.block⟩) (fun _ _ h=>h))
            clear fU
            cases hr:fR ents (x.T.drop a) with
            | error k=>
              rw [hr] at h7
              obtain ⟨⟨a7,sU⟩,rfl⟩:=h7
              have CL:=Lh sU
              have fB:=Lh (show eB ents (x.T.drop c.at')=.error k by rw [JO.out,HR.out,hr])
              clear sU
              have hc:=FB.out.cell
              have hf:=FB.out.frozen
              ((repeat revert K);refine vS ?_;(repeat with_reducible intro K hK))
              exact jJ (k:=k) fB.out CL.out KE.out FB.out rfl kP.out HF.out (by simp only [aL,aQ,aS,bD,Nat.reduceEqDiff,↓reduceIte] <;> rfl) (by simp only [aL,aQ,aS,bD,Nat.reduceEqDiff,↓reduceIte] <;> rfl)
            | ok q=>
              rw [hr] at h7
              obtain ⟨t,r⟩:=q
              obtain ⟨a7,NW,uV,ED,sU,rfl⟩:=h7
              have EE:r=x.T.drop a7:=NW
              subst EE
              have CL:=Lh (show aU x w7 { c with at':=a7 } from sU)
              have EF:=Lh uV
              have kG:=Lh (show a < a7 by have:=pU hr;rw [List.length_drop] at this;omega)
              have wM:=Lh (rB xG.out (by have:=HT.out;omega) hr)
              have fB:=Lh (HR.out.trans (show _=t7 ents 34 m' (x.T.drop a7) (o ++ t) by rw [hr]))
              have a2:¬ 9223372036854775807 < o.length + t.length:=by have:=HT.out;have:=xD.out;have:=kA.out;have:=wM.out;omega
              clear sU hr NW uV ED
              ((repeat revert K);refine vS ?_;intro K hK)
              (refine Kk [0,2,4,5,7,8] fun f=>?_)
              rw [mP]
              exact dN.out _ _ ⟨x.T.length - a7,by rw [HK.out];have:=kG.out;have:=EF.out;omega,HJ.out _ _ _ ⟨f,a7,o ++ t,m',rfl,CL.out,FB.out,KE.out,rfl,EF.out,by have:=sN.out;have:=kG.out;omega,by have:=xD.out;have:=wM.out;have:=kG.out;rw [List.length_append];omega,by have:=sO.out;have:=kG.out;have:=EF.out;omega,fB.out⟩⟩
          have Wh:((b.toNat:Int) != 32)=true:=Cv F9
          have H32:=Lh F9
          clear F9
          ((repeat revert K);refine vg ?_;(repeat with_reducible intro K hK))
          refine (oK.out _).mono ?_
          rintro e5 w5 ⟨rfl,rfl⟩
          go_simp
          cases mX:nO b with
          | true=>
            have HR:=Lh (show eB ents (x.T.drop c.at')=.error .opn by rw [JO.out,vH.out,Cz ents bB Ln.out WC.out (by rw [← pO.out];exact ⟨H32.out,mX⟩)])
            ((repeat revert K);refine vg ?_;(repeat with_reducible intro K hK))
            refine (RC.out w3 _ (by exact eP.out) (by exact eF fM.out rfl rfl rfl rfl) (by exact eF (aK.refl _ w3) rfl rfl rfl rfl) _).mono ?_
            rintro e5 w5 ⟨rfl,nZ,fL⟩
            have FZ:=Lh nZ
            have tG:=Lh fL.1
            have pF:=Lh (lJ.out.mod fL.2 kP.out)
            clear nZ fL
            have hc:=pF.out.cell
            have hf:=pF.out.frozen
            ((repeat revert K);refine vS ?_;(repeat with_reducible intro K hK))
            exact jJ (k:=.opn) HR.out FZ.out tG.out pF.out rfl kP.out HF.out (by simp only [aL,aQ,aS,bD,Nat.reduceEqDiff,↓reduceIte] <;> rfl) (by simp only [aL,aQ,aS,bD,Nat.reduceEqDiff,↓reduceIte] <;> rfl)
          | false=>
            have EH:¬ (x.T.getD a 0 ≠ 32∧nO (x.T.getD a 0)=true):=fun hh=>by have h9:=hh.2;rw [← pO.out,mX] at h9;cases h9
            have HR:=Lh (show t7 ents 34 ((x.T.drop (a4 + 1)).length + 1) (x.T.drop (a4 + 1)) []=_ from vH.out.trans (NX ents bB Ln.out WC.out EH))
            clear EH mX
            ((repeat revert K);refine vg ?_;(repeat with_reducible intro K hK))
            refine (N2.out _ (by exact eP.out) (by exact lJ.out) (by exact eF fM.out rfl rfl rfl rfl)).mono ?_
            rintro e7 w7 ⟨fU,h7⟩
            have FB:=Lh (aJ.mod (S:=fun k=>k=x.p) lJ.out (show aK (fun k=>k=x.p) w3 w7 from ⟨fU.os,fU.tape,fU.output,fU.size,fU.block⟩) kP.out)
            have KE:=Lh (fM.out.trans (show aK (fun k=>k=x.p) w3 w7 from ⟨fU.os,fU.tape,fU.output,fU.size,fU.block⟩) (fun _ _ h=>h))
            clear fU
            cases hr:fR ents (x.T.drop a) with
            | error k=>
              rw [hr] at h7
              obtain ⟨⟨a7,sU⟩,rfl⟩:=h7
              have CL:=Lh sU
              have fB:=Lh (show eB ents (x.T.drop c.at')=.error k by rw [JO.out,HR.out,hr])
              clear sU
              have hc:=FB.out.cell
              have hf:=FB.out.frozen
              ((repeat revert K);refine vS ?_;(repeat with_reducible intro K hK))
              exact jJ (k:=k) fB.out CL.out KE.out FB.out rfl kP.out HF.out (by simp only [aL,aQ,aS,bD,Nat.reduceEqDiff,↓reduceIte] <;> rfl) (by simp only [aL,aQ,aS,bD,Nat.reduceEqDiff,↓reduceIte] <;> rfl)
            | ok q=>
              rw [hr] at h7
              obtain ⟨t,r⟩:=q
              obtain ⟨a7,NW,uV,ED,sU,rfl⟩:=h7
              have EE:r=x.T.drop a7:=NW
              subst EE
              have CL:=Lh (show aU x w7 { c with at':=a7 } from sU)
              have EF:=Lh uV
              have kG:=Lh (show a < a7 by have:=pU hr;rw [List.length_drop] at this;omega)
              have wM:=Lh (rB xG.out (by have:=HT.out;omega) hr)
              have fB:=Lh (HR.out.trans (show _=t7 ents 34 m' (x.T.drop a7) (o ++ t) by rw [hr]))
              have a2:¬ 9223372036854775807 < o.length + t.length:=by have:=HT.out;have:=xD.out;have:=kA.out;have:=wM.out;omega
              clear sU hr NW uV ED
              ((repeat revert K);refine vS ?_;intro K hK)
              (refine Kk [0,2,4,5,7,8] fun f=>?_)
              rw [mP]
              exact dN.out _ _ ⟨x.T.length - a7,by rw [HK.out];have:=kG.out;have:=EF.out;omega,HJ.out _ _ _ ⟨f,a7,o ++ t,m',rfl,CL.out,FB.out,KE.out,rfl,EF.out,by have:=sN.out;have:=kG.out;omega,by have:=xD.out;have:=wM.out;have:=kG.out;rw [List.length_append];omega,by have:=sO.out;have:=kG.out;have:=EF.out;omega,fB.out⟩⟩
      | false=>
        have Ph:=Lh (iP x HT.out w4 { c with at':=a4 } xQ.out Pk.out [34] (by decide) Pr)
        ((repeat revert K);refine vg ?_;(repeat with_reducible intro K hK))
        refine Ph.out.mono ?_
        rintro e5 w5 ⟨rfl,nZ,fL⟩
        have pY:=Lh (o6.out.trans fL (fun _ _ h=>h))
        have vQ:=Lh (C7.out.mod fL kP.out)
        have rL:=Lh (show aU x w5 { c with at':=a4 } from nZ)
        clear nZ fL Ph
        go_simp
        cases Wi:([39]:Bs).isPrefixOf (x.T.drop a4) with
        | false=>
          have HH:=Lh (iP x HT.out w5 { c with at':=a4 } rL.out Pk.out [39] (by decide) Wi)
          have HR:=Lh (show eB ents (x.T.drop c.at')=.error .bad by
            rw [Wf.out]
            by_cases KT:a4 < x.T.length
            · have gN:¬ (x.T.getD a4 0=34 ∨ x.T.getD a4 0=39):=by
                rintro (hh|hh)
                · have h9:=cX 34 x.T a4 KT
                  rw [Pr,hh] at h9
                  cases h9
                · have h9:=cX 39 x.T a4 KT
                  rw [Wi,hh] at h9
                  cases h9
              rw [bT x.T a4 KT]
              simp only [if_neg gN]
            · rw [List.drop_eq_nil_of_le (by omega)])
          clear Wi Pr
          ((repeat revert K);refine vg ?_;(repeat with_reducible intro K hK))
          refine HH.out.mono ?_
          rintro e3 w3 ⟨rfl,eK,cD⟩
          have fM:=Lh (pY.out.trans cD (fun _ _ h=>h))
          have lJ:=Lh (vQ.out.mod cD kP.out)
          have HFB:=Lh (TI x w w3 w3 { c with at':=a4 } eK fM.out (aK.refl _ w3) 1)
          clear eK cD HH
          ((repeat revert K);refine vS ?_;(repeat with_reducible intro K hK))
          refine HFB.out.mono ?_
          rintro e5 w5 ⟨rfl,nZ,fL⟩
          have FZ:=Lh nZ
          have tG:=Lh fL.1
          have pF:=Lh (lJ.out.mod fL.2 kP.out)
          clear nZ fL
          have hc:=pF.out.cell
          have hf:=pF.out.frozen
          ((repeat revert K);refine vS ?_;intro K hK)
          exact jJ (k:=.bad) HR.out FZ.out tG.out pF.out rfl kP.out HF.out (by simp only [aL,aQ,aS,bD,Nat.reduceEqDiff,↓reduceIte] <;> rfl) (by simp only [aL,aQ,aS,bD,Nat.reduceEqDiff,↓reduceIte] <;> rfl)
        | true=>
          have HH:=Lh (jE x HT.out w5 { c with at':=a4 } rL.out Pk.out [39] (by decide) Wi)
          have bB:=lU Wi (by decide)
          have JO := Lh (show eB ents (x.T.drop c.at') = match t7 ents 39 ((x.T.drop (a4 + 1)).length + 1) (x.T.drop (a4 + 1)) [] with
                | .error e=>.error e
                | .ok (v,r4)=>.ok ((nm.1,nm.2,v),r4) by
            have h9:=cX 39 x.T a4 bB
            rw [Wi] at h9
            have gN:x.T.getD a4 0=39:=(beq_iff_eq.1 h9.symm).symm
            rw [Wf.out,bT x.T a4 bB,gN]
            rfl)
          have Wg:=Lh (show a4 + 1 ≤ x.T.length from bB)
          clear Pr Wi bB xQ o6 C7
          ((repeat revert K);refine vg ?_;(repeat with_reducible intro K hK))
          refine HH.out.mono ?_
          rintro e6 w6 ⟨rfl,gD,eQ⟩
          have rL:=Lh (show aU x w6 { c with at':=a4 + 1 } from gD)
          have pY:=Lh (pY.out.trans eQ (fun _ _ h=>h))
          have vQ:=Lh (vQ.out.mod eQ kP.out)
          clear gD eQ HH
          ((repeat revert K);refine vS ?_;intro K hK)
          (refine cJ [0,2,4,5,7,8] fun f=>?_)
          refine wp_loop_ghost_k (Pp x c ents 39 b2 nm (a4 + 1) ((x.T.drop (a4 + 1)).length + 1) w) (x.T.length - (a4 + 1)) ⟨f,a4 + 1,[],(x.T.drop (a4 + 1)).length + 1,rfl,rL.out,vQ.out,pY.out,rfl,Wg.out,by have:=Uk.out;omega,Nat.zero_le _,by rw [List.length_drop];omega,rfl⟩ ?_
          rintro k _ w2 ⟨f,a,o,m,rfl,hp,dJ,hm,hk,iK,vV,BG,GN,rE⟩ J K2 hJ cY
          obtain ⟨m',rfl⟩:∃ m',m=m' + 1:=⟨m - 1,by omega⟩
          have HJ:=Lh hJ
          have dN:=Lh cY
          have HP:=Lh hp
          have HB:=Lh dJ
          have HM:=Lh hm
          have HK:=Lh hk
          have kA:=Lh iK
          have sN:=Lh vV
          have xD:=Lh BG
          have sO:=Lh GN
          have vH:=Lh rE
          clear hJ cY hp dJ hm hk iK vV BG GN rE
          have RC:=Lh (fun (w3 w':World) (h1:aU x w' { c with at':=a }) (h2:aK (fun k=>k=x.p) w w') (h3:aK (fun k=>k=x.p) w3 w') (v:Int)=>TI x w w3 w' { c with at':=a } h1 h2 h3 v)
          cases hq:([39]:Bs).isPrefixOf (x.T.drop a) with
          | true=>
            have HH:=Lh (jE x HT.out w2 { c with at':=a } HP.out kA.out [39] (by decide) hq)
            have bB:=lU hq (by decide)
            have KB:x.T.getD a 0=39:=by
              have h9:=cX 39 x.T a bB
              rw [hq] at h9
              exact (beq_iff_eq.1 h9.symm).symm
            have HR:=Lh (show eB ents (x.T.drop c.at')=.ok ((nm.1,nm.2,o),x.T.drop (a + 1)) by rw [JO.out,vH.out,RB ents bB KB])
            have zW:=Lh bB
            clear hq bB KB
            (revert K;refine vg ?_;(repeat with_reducible intro K hK))
            refine HH.out.mono ?_
            rintro e3 w3 ⟨rfl,eK,cD⟩
            have eP:=Lh (show aU x w3 { c with at':=a + 1 } from eK)
            have lJ:=Lh (HB.out.mod cD kP.out)
            have fM:=Lh (HM.out.trans cD (fun _ _ h=>h))
            clear eK cD HH
            have hc:=lJ.out.cell
            have hf:=lJ.out.frozen
            ((repeat revert K);refine vS ?_)
            exact N0 (v:=(nm.1,nm.2,o)) HR.out zW.out (by have:=sN.out;omega) eP.out fM.out lJ.out rfl kP.out HF.out (by simp only [aL,aQ,aS,bD,Nat.reduceEqDiff,↓reduceIte] <;> rfl) (by simp only [aL,aQ,aS,bD,Nat.reduceEqDiff,↓reduceIte] <;> rfl)
          | false=>
            have HH:=Lh (iP x HT.out w2 { c with at':=a } HP.out kA.out [39] (by decide) hq)
            (revert K;refine vg ?_;(repeat with_reducible intro K hK))
            refine HH.out.mono ?_
            rintro e3 w3 ⟨rfl,eK,cD⟩
            have eP:=Lh (show aU x w3 { c with at':=a } from eK)
            have lJ:=Lh (HB.out.mod cD kP.out)
            have fM:=Lh (HM.out.trans cD (fun _ _ h=>h))
            clear eK cD HH
            go_simp
            by_cases bB:a < x.T.length
            rotate_left
            · have AG:=Lh (fun kk=>qC x (w3.drewN kk) { c with at':=a } eP.out (by simp;omega))
              have HR:=Lh (show eB ents (x.T.drop c.at')=.error .bad by rw [JO.out,vH.out,RA ents (by omega)])
              ((repeat revert K);refine vg ?_;(repeat with_reducible intro K hK))
              (refine aI [0,2,0,0,0,0,1,0,0,0,1,0,0,0] [0,1,2,3,4,5,6,7,8,9,10,11,12,13] (by kernel_rfl) (by kernel_rfl) ?_;refine vP ?_;repeat with_reducible intro nq)
              (refine bK rfl rfl (fun nq K hK=>?_);go_simp)
              refine (AG.out _).mono ?_
              rintro e4 w4 ⟨rfl,k4,rfl⟩
              (go_simp;refine hK.out _ _ ?_;clear hK K)
              (refine vP ?_;repeat with_reducible intro nq)
              ((repeat revert K);refine vg ?_;(repeat with_reducible intro K hK))
              refine (RC.out w3 _ (by exact eP.out) (by exact eF fM.out rfl rfl rfl rfl) (by exact eF (aK.refl _ w3) rfl rfl rfl rfl) _).mono ?_
              rintro e5 w5 ⟨rfl,nZ,fL⟩
              have FZ:=Lh nZ
              have tG:=Lh fL.1
              have pF:=Lh (lJ.out.mod fL.2 kP.out)
              clear nZ fL
              have hc:=pF.out.cell
              have hf:=pF.out.frozen
              ((repeat revert K);refine vS ?_;(repeat with_reducible intro K hK))
              exact jJ (k:=.bad) HR.out FZ.out tG.out pF.out rfl kP.out HF.out (by simp only [aL,aQ,aS,bD,Nat.reduceEqDiff,↓reduceIte] <;> rfl) (by simp only [aL,aQ,aS,bD,Nat.reduceEqDiff,↓reduceIte] <;> rfl)
            have OT:¬ x.T.getD a 0=39:=by
              intro hh
              have h9:=cX 39 x.T a bB
              rw [hq,hh] at h9
              simp at h9
            have Ln:=Lh OT
            have AG:=Lh (fun kk=>qD x (w3.drewN kk) { c with at':=a } eP.out bB)
            have t0:(0:Int) ≤ (a:Int):=by omega
            have t1:(a:Int) < (x.T.length:Int):=by omega
            obtain ⟨b,hb⟩:∃ b,b=x.T.getD a 0:=⟨_,rfl⟩
            have ix:∀ h,(⟨x.T.toArray⟩:ByteArray)[a]'h=b:=by rw [hb];exact jG x.T a bB
            have pO:=Lh hb
            clear hb OT hq
            by_cases lA:b=60
            · have HR:=Lh (show eB ents (x.T.drop c.at')=.error .bad by rw [JO.out,vH.out,Cy ents bB Ln.out (by rw [← pO.out];exact lA)])
              subst lA
              ((repeat revert K);refine vg ?_;(repeat with_reducible intro K hK))
              (refine aI [0,2,0,0,0,0,1,0,0,0,1,0,0,0] [0,1,2,3,4,5,6,7,8,9,10,11,12,13] (by kernel_rfl) (by kernel_rfl) ?_;refine vP ?_;repeat with_reducible intro nq)
              (refine bK rfl rfl (fun nq K hK=>?_);go_simp)
              refine (AG.out _).mono ?_
              rintro e4 w4 ⟨rfl,k4,rfl⟩
              have hc:=eP.out.cell
              have hf:=eP.out.frozen
              (go_simp;refine hK.out _ _ ?_;clear hK K)
              (refine vP ?_;repeat with_reducible intro nq)
              clear hc hf
              ((repeat revert K);refine vg ?_;(repeat with_reducible intro K hK))
              refine (RC.out w3 _ (by exact eP.out) (by exact eF fM.out rfl rfl rfl rfl) (by exact eF (aK.refl _ w3) rfl rfl rfl rfl) _).mono ?_
              rintro e5 w5 ⟨rfl,nZ,fL⟩
              have FZ:=Lh nZ
              have tG:=Lh fL.1
              have pF:=Lh (lJ.out.mod fL.2 kP.out)
              clear nZ fL
              have hc:=pF.out.cell
              have hf:=pF.out.frozen
              ((repeat revert K);refine vS ?_;(repeat with_reducible intro K hK))
              exact jJ (k:=.bad) HR.out FZ.out tG.out pF.out rfl kP.out HF.out (by simp only [aL,aQ,aS,bD,Nat.reduceEqDiff,↓reduceIte] <;> rfl) (by simp only [aL,aQ,aS,bD,Nat.reduceEqDiff,↓reduceIte] <;> rfl)
            have Cw:((b.toNat:Int) == 60)=false:=pP lA
            have WC:=Lh (show ¬ x.T.getD a 0=60 by rw [← pO.out];exact lA)
            clear lA
            ((repeat revert K);refine vg ?_;(repeat with_reducible intro K hK))
            (refine aI [0,2,0,0,0,0,1,0,0,0,1,0,0,0] [0,1,2,3,4,5,6,7,8,9,10,11,12,13] (by kernel_rfl) (by kernel_rfl) ?_;refine vP ?_;repeat with_reducible intro nq)
            (refine bK rfl rfl (fun nq K hK=>?_);go_simp)
            refine (AG.out _).mono ?_
            rintro e4 w4 ⟨rfl,k4,rfl⟩
            have hc:=eP.out.cell
            have hf:=eP.out.frozen
            (go_simp;refine hK.out _ _ ?_;clear hK K)
            (refine vP ?_;repeat with_reducible intro nq)
            ((repeat revert K);refine vg ?_;(repeat with_reducible intro K hK))
            go_quiet (fail)
            clear hc hf
            have N1:∀ w7,aU x w7 { c with at':=a } → aJ w7 b2 We 64 → aK (fun k=>k=x.p) w w7 → Calls prog 40 #[oM x] w7 fun e w8=>eT x w7 { c with at':=a } (fun s=>.returned (.tuple #[aB s,.bool true])) (.returned (.tuple #[aB [],.bool false])) (fR ents (x.T.drop a)) e w8:=fun w7 h1 _ h3=>
              KD x HT.out base Q0.out ents xG.out w7 { c with at':=a } h1 bB (HE.out.below (aK.below (Below.refl _ w) tW.out h3 (fun i hi=>by rw [hi];exact Q0.out)))
            have N2:=Lh N1
            clear N1
            have oK:=Lh (fun w=>zJ b w)
            by_cases F9:b=32
            · have EH:¬ (x.T.getD a 0 ≠ 32∧nO (x.T.getD a 0)=true):=fun hh=>hh.1 (by rw [← pO.out];exact F9)
              have HR:=Lh (show t7 ents 39 ((x.T.drop (a4 + 1)).length + 1) (x.T.drop (a4 + 1)) []=_ from vH.out.trans (NX ents bB Ln.out WC.out EH))
              have Wh:((b.toNat:Int) != 32)=false:=by rw [F9];rfl
              clear EH F9
              ((repeat revert K);refine vg ?_;(repeat with_reducible intro K hK))
              refine (N2.out _ (by exact eP.out) (by exact lJ.out) (by exact eF fM.out rfl rfl rfl rfl)).mono ?_
              rintro e7 w7 ⟨fU,h7⟩
              have FB:=Lh (aJ.mod (S:=fun k=>k=x.p) lJ.out (show aK (fun k=>k=x.p) w3 w7 from ⟨fU.os,fU.tape,fU.output,fU.size,fU.block⟩) kP.out)
              have KE:=Lh (fM.out.trans (show aK (fun k=>k=x.p) w3 w7 from ⟨fU.os,fU.tape,fU.output,fU.size,fU.block⟩) (fun _ _ h=>h))
              clear fU
              cases hr:fR ents (x.T.drop a) with
              | error k=>
                rw [hr] at h7
                obtain ⟨⟨a7,sU⟩,rfl⟩:=h7
                have CL:=Lh sU
                have fB:=Lh (show eB ents (x.T.drop c.at')=.error k by rw [JO.out,HR.out,hr])
                clear sU
                have hc:=FB.out.cell
                have hf:=FB.out.frozen
                ((repeat revert K);refine vS ?_;(repeat with_reducible intro K hK))
                exact jJ (k:=k) fB.out CL.out KE.out FB.out rfl kP.out HF.out (by simp only [aL,aQ,aS,bD,Nat.reduceEqDiff,↓reduceIte] <;> rfl) (by simp only [aL,aQ,aS,bD,Nat.reduceEqDiff,↓reduceIte] <;> rfl)
              | ok q=>
                rw [hr] at h7
                obtain ⟨t,r⟩:=q
                obtain ⟨a7,NW,uV,ED,sU,rfl⟩:=h7
                have EE:r=x.T.drop a7:=NW
                subst EE
                have CL:=Lh (show aU x w7 { c with at':=a7 } from sU)
                have EF:=Lh uV
                have kG:=Lh (show a < a7 by have:=pU hr;rw [List.length_drop] at this;omega)
                have wM:=Lh (rB xG.out (by have:=HT.out;omega) hr)
                have fB:=Lh (HR.out.trans (show _=t7 ents 39 m' (x.T.drop a7) (o ++ t) by rw [hr]))
                have a2:¬ 9223372036854775807 < o.length + t.length:=by have:=HT.out;have:=xD.out;have:=kA.out;have:=wM.out;omega
                clear sU hr NW uV ED
                ((repeat revert K);refine vS ?_;intro K hK)
                (refine Kk [0,2,4,5,7,8] fun f=>?_)
                rw [mP]
                exact dN.out _ _ ⟨x.T.length - a7,by rw [HK.out];have:=kG.out;have:=EF.out;omega,HJ.out _ _ _ ⟨f,a7,o ++ t,m',rfl,CL.out,FB.out,KE.out,rfl,EF.out,by have:=sN.out;have:=kG.out;omega,by have:=xD.out;have:=wM.out;have:=kG.out;rw [List.length_append];omega,by have:=sO.out;have:=kG.out;have:=EF.out;omega,fB.out⟩⟩
            have Wh:((b.toNat:Int) != 32)=true:=Cv F9
            have H32:=Lh F9
            clear F9
            ((repeat revert K);refine vg ?_;(repeat with_reducible intro K hK))
            refine (oK.out _).mono ?_
            rintro e5 w5 ⟨rfl,rfl⟩
            go_simp
            cases mX:nO b with
            | true=>
              have HR:=Lh (show eB ents (x.T.drop c.at')=.error .opn by rw [JO.out,vH.out,Cz ents bB Ln.out WC.out (by rw [← pO.out];exact ⟨H32.out,mX⟩)])
              ((repeat revert K);refine vg ?_;(repeat with_reducible intro K hK))
              refine (RC.out w3 _ (by exact eP.out) (by exact eF fM.out rfl rfl rfl rfl) (by exact eF (aK.refl _ w3) rfl rfl rfl rfl) _).mono ?_
              rintro e5 w5 ⟨rfl,nZ,fL⟩
              have FZ:=Lh nZ
              have tG:=Lh fL.1
              have pF:=Lh (lJ.out.mod fL.2 kP.out)
              clear nZ fL
              have hc:=pF.out.cell
              have hf:=pF.out.frozen
              ((repeat revert K);refine vS ?_;(repeat with_reducible intro K hK))
              exact jJ (k:=.opn) HR.out FZ.out tG.out pF.out rfl kP.out HF.out (by simp only [aL,aQ,aS,bD,Nat.reduceEqDiff,↓reduceIte] <;> rfl) (by simp only [aL,aQ,aS,bD,Nat.reduceEqDiff,↓reduceIte] <;> rfl)
            | false=>
              have EH:¬ (x.T.getD a 0 ≠ 32∧nO (x.T.getD a 0)=true):=fun hh=>by have h9:=hh.2;rw [← pO.out,mX] at h9;cases h9
              have HR:=Lh (show t7 ents 39 ((x.T.drop (a4 + 1)).length + 1) (x.T.drop (a4 + 1)) []=_ from vH.out.trans (NX ents bB Ln.out WC.out EH))
              clear EH mX
              ((repeat revert K);refine vg ?_;(repeat with_reducible intro K hK))
              refine (N2.out _ (by exact eP.out) (by exact lJ.out) (by exact eF fM.out rfl rfl rfl rfl)).mono ?_
              rintro e7 w7 ⟨fU,h7⟩
              have FB:=Lh (aJ.mod (S:=fun k=>k=x.p) lJ.out (show aK (fun k=>k=x.p) w3 w7 from ⟨fU.os,fU.tape,fU.output,fU.size,fU.block⟩) kP.out)
              have KE:=Lh (fM.out.trans (show aK (fun k=>k=x.p) w3 w7 from ⟨fU.os,fU.tape,fU.output,fU.size,fU.block⟩) (fun _ _ h=>h))
              clear fU
              cases hr:fR ents (x.T.drop a) with
              | error k=>
                rw [hr] at h7
                obtain ⟨⟨a7,sU⟩,rfl⟩:=h7
                have CL:=Lh sU
                have fB:=Lh (show eB ents (x.T.drop c.at')=.error k by rw [JO.out,HR.out,hr])
                clear sU
                have hc:=FB.out.cell
                have hf:=FB.out.frozen
                ((repeat revert K);refine vS ?_;(repeat with_reducible intro K hK))
                exact jJ (k:=k) fB.out CL.out KE.out FB.out rfl kP.out HF.out (by simp only [aL,aQ,aS,bD,Nat.reduceEqDiff,↓reduceIte] <;> rfl) (by simp only [aL,aQ,aS,bD,Nat.reduceEqDiff,↓reduceIte] <;> rfl)
              | ok q=>
                rw [hr] at h7
                obtain ⟨t,r⟩:=q
                obtain ⟨a7,NW,uV,ED,sU,rfl⟩:=h7
                have EE:r=x.T.drop a7:=NW
                subst EE
                have CL:=Lh (show aU x w7 { c with at':=a7 } from sU)
                have EF:=Lh uV
                have kG:=Lh (show a < a7 by have:=pU hr;rw [List.length_drop] at this;omega)
                have wM:=Lh (rB xG.out (by have:=HT.out;omega) hr)
                have fB:=Lh (HR.out.trans (show _=t7 ents 39 m' (x.T.drop a7) (o ++ t) by rw [hr]))
                have a2:¬ 9223372036854775807 < o.length + t.length:=by have:=HT.out;have:=xD.out;have:=kA.out;have:=wM.out;omega
                clear sU hr NW uV ED
                ((repeat revert K);refine vS ?_;intro K hK)
                (refine Kk [0,2,4,5,7,8] fun f=>?_)
                rw [mP]
                exact dN.out _ _ ⟨x.T.length - a7,by rw [HK.out];have:=kG.out;have:=EF.out;omega,HJ.out _ _ _ ⟨f,a7,o ++ t,m',rfl,CL.out,FB.out,KE.out,rfl,EF.out,by have:=sN.out;have:=kG.out;omega,by have:=xD.out;have:=wM.out;have:=kG.out;rw [List.length_append];omega,by have:=sO.out;have:=kG.out;have:=EF.out;omega,fB.out⟩⟩
end Go.Proofs.YtdjdjbpnbjdaaaaGreatDoor
