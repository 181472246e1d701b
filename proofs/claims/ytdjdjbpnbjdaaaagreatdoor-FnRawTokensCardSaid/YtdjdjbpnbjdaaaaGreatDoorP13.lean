/- Part of the proof that laws.FnRawTokens returns true for every argument. No conditions. -/
import Derived.Test.YtdjdjbpnbjdaaaaGreatDoorP11
import Derived.Test.YtdjdjbpnbjdaaaaGreatDoorP12
import Derived.Test.YtdjdjbpnbjdaaaaGreatDoorP02
import Derived.Test.YtdjdjbpnbjdaaaaGreatDoorP07
import Derived.Maps.OwnSet
import Derived.Maps.StringElems
set_option linter.all false
set_option maxHeartbeats 8000000
set_option maxRecDepth 100000
namespace Go.Proofs.YtdjdjbpnbjdaaaaGreatDoor
open Go Go.RowKit Tryz
theorem Ig (m:Nat) (first:Bool) (k:Nat) (l:Bs) (hl:l≠[]) (hm:l.length≤m) :
  ∃ m',m=m'+1∧iN m first k l=if (aF l).2=0∨(128≤(aF l).1∧m5 (aF l).1=false) then 2
   else if m5 (aF l).1=false∨(first=true∧vR (aF l).1=false) then iN m' false 1 (l.drop (aF l).2) else iN m' false k (l.drop (aF l).2):=by
 have hp:0<l.length:=by cases l with
  | nil=>exact absurd rfl hl
  | cons=>simp
 obtain ⟨m',rfl⟩:∃ m',m=m'+1:=⟨m-1,by omega⟩
 refine ⟨m',rfl,?_⟩
 conv=>lhs;unfold iN
 rw [if_neg hl]
def Nv (l:Bs) (w0:World) (k:Nat) (ac:Act) (w:World):Prop:=
 ∃ f i kd m,ac=fr 49 f [(0,aB l),(3,.int .i64 (kd:Nat)),(4,.int .i64 (i:Nat))]∧w0=w∧k=l.length-i∧i≤l.length∧l.length-i≤m∧bE l=iN m (decide (i=0)) kd (l.drop i)
theorem sF (l:Bs) (hl:l.length≤1000000000) (w:World):Calls prog 46 #[aB l] w fun e w'=>e=.returned (.int .i64 (bE l:Nat))∧w'=w:=by
 have HL:=Lh hl
 clear hl
 refine eJ 49 func46 [_] fun f=>?_
 simp only [aE]
 by_cases cB:l=[]
 ·have iK:l.isEmpty=true:=by rw [cB];rfl
  have xO:bE l=1:=by rw [cB];rfl
  rw [xO]
  subst cB
  clear xO iK
  (refine vg ?_;intro K hK)
  refine wp_loop_once ?_
  (revert K;refine vg ?_)
  (refine cW ?_)
  exact ⟨rfl,rfl⟩
 have iK:l.isEmpty=false:=by cases l with
  | nil=>exact absurd rfl cB
  | cons=>rfl
 have HS:=Lh (show bE l=iN l.length true 0 l by unfold bE;rw [if_neg cB])
 clear cB
 (refine vg ?_;intro K hK)
 (refine cJ [0,3,4] fun f=>?_)
 refine wp_loop_ghost_k (Nv l w) l.length ⟨f,0,0,l.length,rfl,rfl,rfl,Nat.zero_le _,Nat.le_refl _,HS.out⟩ ?_
 rintro k _ _ ⟨f,i,kd,m,rfl,rfl,hk,hi,hm,hnk⟩ J K2 hJ cY
 have HJ:=Lh hJ
 have dN:=Lh cY
 have HK:=Lh hk
 have HM:=Lh hm
 have P7:=Lh hnk
 clear hJ cY hk hm hnk HS iK
 by_cases bB:i<l.length
 ·have cB:l.drop i≠[]:=fun hh=>by have:=congrArg List.length hh;simp at this;omega
  have t0:(0:Int)≤(i:Int):=by omega
  have t1:(i:Int)<(l.length:Int):=by omega
  have t2:(i:Int)≤(l.length:Int):=by omega
  have HD:=Lh (nW (l.drop i) cB w)
  have kA:=Lh (DM (l.drop i))
  have HW:=Lh (m9 (l.drop i) cB)
  obtain ⟨m',GN,dA⟩:=Ig m (decide (i=0)) kd (l.drop i) cB (by rw [List.length_drop];exact HM.out)
  have gC:=Lh (P7.out.trans dA)
  have sO:=Lh GN
  clear dA GN cB P7
  obtain ⟨r,hr⟩:∃ r,r=(aF (l.drop i)).1:=⟨_,rfl⟩
  obtain ⟨n,hn⟩:∃ n,n=(aF (l.drop i)).2:=⟨_,rfl⟩
  rw [←hr] at HD kA gC
  rw [←hn] at HD HW gC
  clear hr hn
  (revert K;refine vg ?_;(repeat with_reducible intro K hK))
  rw [jI]
  refine HD.out.mono ?_
  rintro e w' ⟨rfl,rfl⟩
  clear HD
  by_cases hn:n=0
  ·subst hn
   ((repeat revert K);refine vS ?_;(repeat with_reducible intro K hK))
   (refine cW ?_)
   exact ⟨by rw [gC.out,if_pos (Or.inl rfl)];rfl,rfl⟩
  have pH:((n:Int)==0)=false:=by simp;omega
  have HN:=Lh hn
  clear hn
  have HC:=Lh (fun w=>A4 r w)
  have HB:=Lh (fun w=>LZ r w)
  have wi:IntKind.i64.wrap ((i:Int)+(n:Int))=((i+n:Nat):Int):=by rw [IntKind.wrap_i64];have h1:=HW.out;have h2:=HL.out;rw [List.length_drop] at h1;omega
  have SJ:∀ (f:Nat→Value) (kd':Nat),bE l=iN m' false kd' ((l.drop i).drop n)→∃ k',k'<k∧Nv l w k' (fr 49 f [(0,aB l),(3,.int .i64 (kd':Nat)),(4,.int .i64 ((i+n:Nat):Int))]) w:=by
   intro f kd' h
   have h1:=HW.out
   have h2:=HM.out
   have h3:=sO.out
   have h4:=HN.out
   have h5:=HK.out
   rw [List.length_drop] at h1
   refine ⟨l.length-(i+n),by omega,f,i+n,kd',m',rfl,rfl,rfl,by omega,by omega,?_⟩
   rw [h,List.drop_drop,decide_eq_false (by omega)]
  have DN:=Lh SJ
  clear SJ
  by_cases gO:128≤r∧m5 r=false
  ·have g1:(128:Int)≤(r:Int):=by omega
   have HR:=Lh gO
   have hcf:=gO.2
   clear gO
   ((repeat revert K);refine vS ?_;(repeat with_reducible intro K hK))
   refine (HC.out _).mono ?_
   rintro e w' ⟨rfl,rfl⟩
   ((repeat revert K);refine vS ?_;(repeat with_reducible intro K hK))
   (refine cW ?_)
   exact ⟨by rw [gC.out,if_pos (Or.inr HR.out)];rfl,rfl⟩
  have P8:=Lh (gC.out.trans (if_neg (fun hh=>hh.elim (fun h=>HN.out h) gO)))
  clear gC
  have r8:r<128∨(128≤r∧m5 r=true):=by
   by_cases h:r<128
   ·exact Or.inl h
   ·refine Or.inr ⟨by omega,?_⟩
    cases hh:m5 r with
    | true=>rfl
    | false=>exact absurd ⟨by omega,hh⟩ gO
  clear gO
  rcases r8 with hs|⟨hs,B6⟩
  ·have g1:¬ (128:Int)≤(r:Int):=by omega
   ((repeat revert K);refine vS ?_;(repeat with_reducible intro K hK))
   refine (HC.out _).mono ?_
   rintro e w' ⟨rfl,rfl⟩
   go_simp
   cases B6:m5 r with
   | false=>
    ((repeat revert K);refine vg ?_;intro K hK)
    (refine Kk [0,3,4] fun f=>?_)
    obtain ⟨k',yV,zU⟩:=DN.out f 1 (P8.out.trans (if_pos (Or.inl B6)))
    exact dN.out _ _ ⟨k',yV,HJ.out _ _ _ zU⟩
   | true=>
    by_cases Fe:i=0
    ·have e0:((i:Int)==0)=true:=by simp;omega
     have HI:=Lh Fe
     clear Fe
     ((repeat revert K);refine vg ?_;(repeat with_reducible intro K hK))
     refine (HB.out _).mono ?_
     rintro e w' ⟨rfl,rfl⟩
     go_simp
     cases vG:vR r with
     | false=>
      ((repeat revert K);refine vg ?_;intro K hK)
      (refine Kk [0,3,4] fun f=>?_)
      obtain ⟨k',yV,zU⟩:=DN.out f 1 (P8.out.trans (if_pos (Or.inr ⟨decide_eq_true HI.out,vG⟩)))
      exact dN.out _ _ ⟨k',yV,HJ.out _ _ _ zU⟩
     | true=>
      ((repeat revert K);refine vg ?_;intro K hK)
      (refine Kk [0,3,4] fun f=>?_)
      obtain ⟨k',yV,zU⟩:=DN.out f kd (P8.out.trans (if_neg (fun hh=>hh.elim (fun h=>Bool.noConfusion (B6.symm.trans h)) (fun h=>Bool.noConfusion (vG.symm.trans h.2)))))
      exact dN.out _ _ ⟨k',yV,HJ.out _ _ _ zU⟩
    ·have e0:((i:Int)==0)=false:=by simp;omega
     have HI:=Lh Fe
     clear Fe
     ((repeat revert K);refine vg ?_;intro K hK)
     (refine Kk [0,3,4] fun f=>?_)
     obtain ⟨k',yV,zU⟩:=DN.out f kd (P8.out.trans (if_neg (fun hh=>hh.elim (fun h=>Bool.noConfusion (B6.symm.trans h)) (fun h=>HI.out (of_decide_eq_true h.1)))))
     exact dN.out _ _ ⟨k',yV,HJ.out _ _ _ zU⟩
  ·have g1:(128:Int)≤(r:Int):=by omega
   ((repeat revert K);refine vS ?_;(repeat with_reducible intro K hK))
   refine (HC.out _).mono ?_
   rintro e w' ⟨rfl,rfl⟩
   ((repeat revert K);refine vS ?_;(repeat with_reducible intro K hK))
   refine (HC.out _).mono ?_
   rintro e w' ⟨rfl,rfl⟩
   go_simp
   by_cases Fe:i=0
   ·have e0:((i:Int)==0)=true:=by simp;omega
    have HI:=Lh Fe
    clear Fe
    ((repeat revert K);refine vg ?_;(repeat with_reducible intro K hK))
    refine (HB.out _).mono ?_
    rintro e w' ⟨rfl,rfl⟩
    go_simp
    cases vG:vR r with
    | false=>
     ((repeat revert K);refine vg ?_;intro K hK)
     (refine Kk [0,3,4] fun f=>?_)
     obtain ⟨k',yV,zU⟩:=DN.out f 1 (P8.out.trans (if_pos (Or.inr ⟨decide_eq_true HI.out,vG⟩)))
     exact dN.out _ _ ⟨k',yV,HJ.out _ _ _ zU⟩
    | true=>
     ((repeat revert K);refine vg ?_;intro K hK)
     (refine Kk [0,3,4] fun f=>?_)
     obtain ⟨k',yV,zU⟩:=DN.out f kd (P8.out.trans (if_neg (fun hh=>hh.elim (fun h=>Bool.noConfusion (B6.symm.trans h)) (fun h=>Bool.noConfusion (vG.symm.trans h.2)))))
     exact dN.out _ _ ⟨k',yV,HJ.out _ _ _ zU⟩
   ·have e0:((i:Int)==0)=false:=by simp;omega
    have HI:=Lh Fe
    clear Fe
    ((repeat revert K);refine vg ?_;intro K hK)
    (refine Kk [0,3,4] fun f=>?_)
    obtain ⟨k',yV,zU⟩:=DN.out f kd (P8.out.trans (if_neg (fun hh=>hh.elim (fun h=>Bool.noConfusion (B6.symm.trans h)) (fun h=>HI.out (of_decide_eq_true h.1)))))
    exact dN.out _ _ ⟨k',yV,HJ.out _ _ _ zU⟩
 ·have sX:i=l.length:=by omega
  subst sX
  have t1:¬ ((l.length:Int)<(l.length:Int)):=by omega
  have HR:=Lh (show bE l=kd by
   rw [P7.out,List.drop_length]
   cases m<;>simp [iN])
  (revert K;refine vg ?_)
  (refine cW ?_)
  exact ⟨by rw [HR.out],rfl⟩
theorem bT (T:Bs) (a:Nat) (ha:a<T.length):T.drop a=T.getD a 0::T.drop (a+1):=by
 rw [List.drop_eq_getElem_cons ha]
 simp [List.getD_eq_getElem?_getD,ha]
theorem DO (l:Bs) (i:Nat) (h:i<l.length) (c:UInt8):(l.take (i+1)).contains c=((l.take i).contains c||(c==l.getD i 0)):=by
 rw [List.take_add_one,List.getElem?_eq_getElem h]
 have e:l.getD i 0=l[i]:=by simp [List.getD_eq_getElem?_getD,h]
 rw [e,Bool.eq_iff_iff]
 simp only [List.contains_iff_mem,List.mem_append,Option.toList_some,List.mem_singleton,Bool.or_eq_true,beq_iff_eq]
theorem pP {b k:UInt8} (h:b≠k):((b.toNat:Int)==(k.toNat:Int))=false:=by
 rw [beq_eq_false_iff_ne]
 intro hh
 exact h (UInt8.toNat_inj.1 (by omega))
def a0R (l:Bs) (w0:World) (k:Nat) (ac:Act) (w:World):Prop:=
 ∃ f i,ac=fr 17 f [(0,aB l),(5,.int .i64 (l.length:Nat)),(6,.int .i64 (i:Nat))]∧w0=w∧k=l.length-i∧i≤l.length∧(l.take i).contains 58=false
theorem zV (l:Bs) (hl:l.length≤1000000000) (w:World):Calls prog 47 #[aB l] w fun e w'=>e=.returned (.bool (eV l))∧w'=w:=by
 have HL:=Lh hl
 have P7:=Lh (sF l hl w)
 clear hl
 refine eJ 17 func47 [_] fun f=>?_
 simp only [aE]
 (refine vg ?_;intro K hK)
 (refine cJ [0,5,6] fun f=>?_)
 refine wp_loop_ghost_k (a0R l w) l.length ⟨f,0,rfl,rfl,rfl,Nat.zero_le _,rfl⟩ ?_
 rintro k _ _ ⟨f,i,rfl,rfl,hk,hi,hc⟩ J K2 hJ cY
 have HJ:=Lh hJ
 have dN:=Lh cY
 have HK:=Lh hk
 have HC:=Lh hc
 clear hJ cY hk hc
 by_cases bB:i<l.length
 ·have t0:(0:Int)≤(i:Int):=by omega
  have t1:(i:Int)<(l.length:Int):=by omega
  have wi:IntKind.i64.wrap ((i:Int)+1)=((i+1:Nat):Int):=by rw [IntKind.wrap_i64];have h2:=HL.out;omega
  have A6:=Lh (DO l i bB 58)
  obtain ⟨b,hb⟩:∃ b,b=l.getD i 0:=⟨_,rfl⟩
  have ix:∀ h,(⟨l.toArray⟩:ByteArray)[i]'h=b:=by rw [hb];exact jG l i bB
  rw [←hb] at A6
  have pO:=Lh hb
  clear hb
  by_cases P9:b=58
  ·have hr:eV l=false:=by
    have h1:l.contains 58=true:=by
     rw [List.contains_iff_mem]
     have:l[i]=58:=by rw [←P9,pO.out];simp [List.getD_eq_getElem?_getD,bB]
     rw [←this];exact List.getElem_mem bB
    unfold eV;rw [h1];rfl
   have HR:=Lh hr
   clear hr pO A6
   subst P9
   (revert K;refine vg ?_;(repeat with_reducible intro K hK))
   (refine cW ?_)
   exact ⟨by rw [HR.out],rfl⟩
  ·have he:((b.toNat:Int)==58)=false:=pP P9
   have OQ:=Lh (show (l.take (i+1)).contains 58=false by rw [A6.out,HC.out,Bool.false_or,beq_eq_false_iff_ne];exact fun h=>P9 h.symm)
   clear P9 pO A6
   (revert K;refine vg ?_;intro K hK)
   (refine Kk [0,5,6] fun f=>?_)
   exact dN.out _ _ ⟨l.length-(i+1),by rw [HK.out];omega,HJ.out _ _ _ ⟨f,i+1,rfl,rfl,rfl,bB,OQ.out⟩⟩
 ·have sX:i=l.length:=by omega
  subst sX
  have t1:¬ ((l.length:Int)<(l.length:Int)):=by omega
  have HR:=Lh (show eV l=(bE l==0) by
   have:=HC.out
   rw [List.take_length] at this
   unfold eV;rw [this];rfl)
  (revert K;refine vg ?_;(repeat with_reducible intro K hK))
  refine P7.out.mono ?_
  rintro e w' ⟨rfl,rfl⟩
  ((repeat revert K);refine vS ?_)
  (refine cW ?_)
  refine ⟨?_,rfl⟩
  rw [HR.out]
  congr 2
  rw [Bool.eq_iff_iff]
  simp
theorem QA {l:Bs} (h:l.contains 58=false):kE l=some ([],l):=by
 have h2:∀ c∈l,(c != 58)=true:=fun c hc=>by
  rw [bne_iff_ne];rintro rfl
  rw [←List.contains_iff_mem,h] at hc;cases hc
 have h3:∀ (l:Bs),(∀ c∈l,(c != 58)=true)→l.dropWhile (· != 58)=[]:=by
  intro l
  induction l with
  | nil=>exact fun _=>rfl
  | cons b r ih=>intro h;rw [List.dropWhile_cons,if_pos (h b (by simp))];exact ih (fun c hc=>h c (by simp [hc]))
 unfold kE
 rw [h3 l h2]
theorem GO {a b:Bs} (h:a.contains 58=false):(a++58::b).dropWhile (· != 58)=58::b∧(a++58::b).takeWhile (· != 58)=a:=by
 have h2:∀ c∈a,(c != 58)=true:=fun c hc=>by
  rw [bne_iff_ne];rintro rfl
  rw [←List.contains_iff_mem,h] at hc;cases hc
 constructor
 ·rw [List.dropWhile_append_of_pos h2];rfl
 ·rw [List.takeWhile_append_of_pos h2];simp
theorem U2 {a b:Bs} (h:a.contains 58=false) (hb:b.contains 58=false):kE (a++58::b)=if a=[]∨b=[] then none else some (a,b):=by
 obtain ⟨h1,h2⟩:=GO (b:=b) h
 unfold kE
 rw [h1,h2]
 simp only [hb]
 rfl
theorem U3 {a b:Bs} (h:a.contains 58=false) (hb:b.contains 58=true):kE (a++58::b)=none:=by
 obtain ⟨h1,h2⟩:=GO (b:=b) h
 unfold kE
 rw [h1]
 simp only [hb]
 rfl
def Sg (l:Bs) (i:Nat) (at':Int):Prop:=
 (at'=-1∧(l.take i).contains 58=false)∨∃ j:Nat,at'=j∧j<i∧j<l.length∧l.getD j 0=58∧(l.take j).contains 58=false∧((l.take i).drop (j+1)).contains 58=false
def a0S (l:Bs) (w0:World) (k:Nat) (ac:Act) (w:World):Prop:=
 ∃ f i at',ac=fr 39 f [(0,aB l),(5,.int .i64 at'),(8,.int .i64 (l.length:Nat)),(9,.int .i64 (i:Nat))]∧w0=w∧k=l.length-i∧i≤l.length∧Sg l i at'
theorem ZM (l:Bs) (j:Nat) (h:j<l.length) (P9:l.getD j 0=58):l=l.take j++58::l.drop (j+1):=by
 have:l[j]=58:=by rw [←P9];simp [List.getD_eq_getElem?_getD,h]
 conv=>lhs;rw [←List.take_append_drop j l,List.drop_eq_getElem_cons h,this]
theorem Ih (l:Bs) (hl:l.length≤1000000000) (w:World):Calls prog 82 #[aB l] w fun e w'=>(∃ p q ok,e=.returned (.tuple #[aB p,aB q,.bool ok])∧(if ok then some (p,q) else none)=kE l∧p.length≤l.length∧q.length≤l.length)∧∃ k,w'=w.drewN k:=by
 have HL:=Lh hl
 clear hl
 refine eJ 39 func82 [_] fun f=>?_
 simp only [aE]
 (refine vg ?_;intro K hK)
 (refine cJ [0,5,8,9] fun f=>?_)
 refine wp_loop_ghost_k (a0S l w) l.length ⟨f,0,-1,rfl,rfl,rfl,Nat.zero_le _,Or.inl ⟨rfl,rfl⟩⟩ ?_
 rintro k _ _ ⟨f,i,at',rfl,rfl,hk,hi,fY⟩ J K2 hJ cY
 have HJ:=Lh hJ
 have dN:=Lh cY
 have HK:=Lh hk
 have oK:=Lh fY
 clear hJ cY hk fY
 by_cases bB:i<l.length
 ·have t0:(0:Int)≤(i:Int):=by omega
  have t1:(i:Int)<(l.length:Int):=by omega
  have wi:IntKind.i64.wrap ((i:Int)+1)=((i+1:Nat):Int):=by rw [IntKind.wrap_i64];have h2:=HL.out;omega
  obtain ⟨b,hb⟩:∃ b,b=l.getD i 0:=⟨_,rfl⟩
  have ix:∀ h,(⟨l.toArray⟩:ByteArray)[i]'h=b:=by rw [hb];exact jG l i bB
  have A6:=Lh (DO l i bB 58)
  rw [←hb] at A6
  have pO:=Lh hb
  clear hb
  by_cases P9:b=58
  ·have he:((b.toNat:Int) != 58)=false:=by rw [P9];rfl
   have H58:=Lh P9
   clear P9
   by_cases qG:(0:Int)≤at'
   ·have Nw:kE l=none:=by
     rcases oK.out with ⟨h1,_⟩|⟨j,h1,h2,h3,h4,h5,h6⟩
     ·omega
     ·rw [ZM l j h3 h4]
      refine U3 h5 ?_
      rw [List.contains_iff_mem]
      have h7:(l.drop (j+1))[i-(j+1)]?=some 58:=by
       rw [List.getElem?_drop,show j+1+(i-(j+1))=i by omega,List.getElem?_eq_getElem bB]
       rw [←H58.out,pO.out];simp [List.getD_eq_getElem?_getD,bB]
      exact List.mem_of_getElem? h7
    have HR:=Lh Nw
    clear Nw
    (revert K;refine vg ?_;(repeat with_reducible intro K hK))
    (refine WV ?_)
    exact ⟨⟨[],[],false,rfl,by rw [HR.out];rfl,Nat.zero_le _,Nat.zero_le _⟩,0,rfl⟩
   ·have gH:=Lh (show Sg l (i+1) (i:Int) by
     rcases oK.out with ⟨h1,h2⟩|⟨j,h1,_⟩
     ·refine Or.inr ⟨i,rfl,by omega,bB,by rw [←pO.out];exact H58.out,h2,?_⟩
      rw [List.drop_eq_nil_of_le (by rw [List.length_take];omega)];rfl
     ·omega)
    (revert K;refine vg ?_;intro K hK)
    (refine Kk [0,5,8,9] fun f=>?_)
    exact dN.out _ _ ⟨l.length-(i+1),by rw [HK.out];omega,HJ.out _ _ _ ⟨f,i+1,i,rfl,rfl,rfl,bB,gH.out⟩⟩
  ·have he:((b.toNat:Int) != 58)=true:=by
    have:((b.toNat:Int)==58)=false:=pP P9
    rw [bne,this];rfl
   have gH:=Lh (show Sg l (i+1) at' by
    rcases oK.out with ⟨h1,h2⟩|⟨j,h1,h2,h3,h4,h5,h6⟩
    ·refine Or.inl ⟨h1,?_⟩
     rw [A6.out,h2,Bool.false_or,beq_eq_false_iff_ne];exact fun h=>P9 h.symm
    ·refine Or.inr ⟨j,h1,by omega,h3,h4,h5,?_⟩
     rw [List.take_add_one,List.drop_append_of_le_length (by rw [List.length_take];omega),List.getElem?_eq_getElem bB]
     have e:l[i]=b:=by rw [pO.out];simp [List.getD_eq_getElem?_getD,bB]
     rw [e]
     have h6':=h6
     simp only [List.contains_eq_mem,decide_eq_false_iff_not] at h6' ⊢
     simp only [Option.toList_some,List.mem_append,List.mem_singleton,not_or]
     exact ⟨h6',fun h=>P9 h.symm⟩)
   clear P9
   (revert K;refine vg ?_;intro K hK)
   (refine Kk [0,5,8,9] fun f=>?_)
   exact dN.out _ _ ⟨l.length-(i+1),by rw [HK.out];omega,HJ.out _ _ _ ⟨f,i+1,at',rfl,rfl,rfl,bB,gH.out⟩⟩
 ·have sX:i=l.length:=by omega
  subst sX
  have t1:¬ ((l.length:Int)<(l.length:Int)):=by omega
  rcases oK.out with ⟨h1,h2⟩|⟨j,h1,h2,h3,h4,h5,h6⟩
  ·rw [List.take_length] at h2
   have HR:=Lh (QA h2)
   subst h1
   clear h2
   (revert K;refine vg ?_;intro K hK)
   (refine WV ?_)
   exact ⟨⟨[],l,true,rfl,by rw [HR.out];rfl,Nat.zero_le _,Nat.le_refl _⟩,0,rfl⟩
  ·rw [List.take_length] at h6
   subst h1
   have HR:=Lh (show kE l=if l.take j=[]∨l.drop (j+1)=[] then none else some (l.take j,l.drop (j+1)) by
    conv=>lhs;rw [ZM l j h3 h4]
    exact U2 h5 h6)
   have n1:¬ ((j:Int)<0):=by omega
   have n2:(0:Int)≤(j:Int):=by omega
   have n3:(j:Int)≤(l.length:Int):=by omega
   have wj:IntKind.i64.wrap ((j:Int)+1)=((j+1:Nat):Int):=by rw [IntKind.wrap_i64];have h2:=HL.out;omega
   have n4:(0:Int)≤(j:Int)+1:=by omega
   have n5:(j:Int)+1≤(l.length:Int):=by omega
   have n6:((j:Int)+1).toNat=j+1:=by omega
   clear h2 h4 h5 h6
   by_cases hj:0<j
   ·have d1:decide (0<j)=true:=decide_eq_true hj
    by_cases Ey:j+1<l.length
    ·have d2:decide (j+1<l.length)=true:=decide_eq_true Ey
     (revert K;refine vg ?_;intro K hK)
     (refine aI [0,0,0,0,0,0,0,0,0,0,0,0,0,0,0,0,0,0,0] [0,1,2,3,4,5,6,7,8,9,10,11,12,13,14,15,16,17,18] (by kernel_rfl) (by kernel_rfl) ?_;refine vP ?_;repeat with_reducible intro nq)
     (revert K;refine vg ?_)
     (refine WV ?_)
     rw [lO,jI]
     refine ⟨⟨l.take j,l.drop (j+1),true,?_,?_,by rw [List.length_take];omega,by rw [List.length_drop];omega⟩,_,rfl⟩
     ·first|(simp;done)|(simp;omega)
     ·rw [HR.out,if_pos rfl,if_neg]
      rintro (h|h)
      ·rcases List.take_eq_nil_iff.1 h with h|h
       ·omega
       ·rw [h] at h3;simp at h3
      ·exact absurd (List.drop_eq_nil_iff.1 h) (by omega)
    ·have d2:decide (j+1<l.length)=false:=decide_eq_false Ey
     (revert K;refine vg ?_;intro K hK)
     (refine aI [0,0,0,0,0,0,0,0,0,0,0,0,0,0,0,0,0,0,0] [0,1,2,3,4,5,6,7,8,9,10,11,12,13,14,15,16,17,18] (by kernel_rfl) (by kernel_rfl) ?_;refine vP ?_;repeat with_reducible intro nq)
     (revert K;refine vg ?_)
     (refine WV ?_)
     rw [lO,jI]
     refine ⟨⟨l.take j,l.drop (j+1),false,?_,?_,by rw [List.length_take];omega,by rw [List.length_drop];omega⟩,_,rfl⟩
     ·first|(simp;done)|(simp;omega)
     ·rw [HR.out,if_pos (Or.inr (List.drop_eq_nil_of_le (by omega)))];rfl
   ·have d1:decide (0<j)=false:=decide_eq_false hj
    (revert K;refine vg ?_;intro K hK)
    (refine aI [0,0,0,0,0,0,0,0,0,0,0,0,0,0,0,0,0,0,0] [0,1,2,3,4,5,6,7,8,9,10,11,12,13,14,15,16,17,18] (by kernel_rfl) (by kernel_rfl) ?_;refine vP ?_;repeat with_reducible intro nq)
    (revert K;refine vg ?_)
    (refine WV ?_)
    rw [lO,jI]
    refine ⟨⟨l.take j,l.drop (j+1),false,?_,?_,by rw [List.length_take];omega,by rw [List.length_drop];omega⟩,_,rfl⟩
    ·first|(simp;done)|(simp;omega)
    ·have:j=0:=by omega
     rw [HR.out,this];rfl
def uD (x:Cx) (c:DC) (q:Option UInt8) (cd:Bool) (w':World) (v':DV) (en:Ending):Except EK (Bs×Bs)→Prop
 | .error k=>en=.returned (.slice none 0 0)∧jP x c w' v' k
 | .ok (d,r)=>∃ g cap e b,en=.returned (.slice (some ⟨g,0,none⟩) d.length cap)∧bX x c w' v' r e b∧v'.bufv=.slice (some ⟨g,0,none⟩) b.length cap∧d=b.take d.length∧d.length≤b.length∧(q=none→cd=false→r=[]→e=some (qK x.o.fails))∧(cd=true→v'.nb=-1)
structure wL (x:Cx) (c:DC):Prop where
 ent:c.ent=.map none
 ents:x.o.ents=none
def a0T (x:Cx) (c:DC) (w0:World) (v0:DV) (q:Option UInt8) (cd:Bool) (rest0:Bs) (k:Nat) (a:Act) (w:World):Prop:=
 ∃ f v rest e b0 b1 buf,a=fr 381 f [(0,bS x),(1,.int .i64 (qI q)),(2,.bool cd),(7,.int .u8 (UInt8.toNat b0)),(8,.int .u8 (UInt8.toNat b1)),(9,.int .i64 0)]∧bX x c w v rest e buf∧cK x w0 v0 w v∧k=rest.length ∧
  aX x.o q cd rest0 0 0 []=aX x.o q cd rest b0 b1 buf∧(cO v∨(q=none∧b0=0∧b1=0∧rest=rest0))∧buf.length+8*rest.length≤8*rest0.length∧Xv b0 b1 buf
theorem QB (x:Cx) (hx:x.All) (c:DC) (dR:iU x c) (jL:wL x c) (q:Option UInt8) (cd:Bool) (w:World) (v:DV) (rest:Bs) (e:Option EK) (buf:Bs) (h:bX x c w v rest e buf)
  (hq:q≠none→cO v) (hc:q=none→cd=false→∃ b r,rest=b::r∧b≠60) :
  Calls prog 58 #[bS x,.int .i64 (qI q),.bool cd] w fun en w'=>∃ v',cK x w v w' v'∧uD x c q cd w' v' en (aX x.o q cd rest 0 0 []):=by
 have B1:=Lh (rV x hx.toOk c w v rest e buf h)
 have HX:=Lh hx
 have HD:=Lh dR
 have xP:=Lh jL
 have HQ:=Lh hq
 have HC:=Lh hc
 have ON:=Lh (show rest.length≤1000000000 from Nat.le_trans (h.suf.length_le) hx.len)
 clear h hx dR jL hq hc
 refine eJ 381 func58 [_,_,_] fun f=>?_
 simp only [aE]
 (refine vg ?_;(repeat with_reducible intro K hK))
 refine B1.out.mono ?_
 rintro e1 w1 ⟨rfl,v1,h1,iL,bP,eA,iR⟩
 have H1:=Lh h1
 have iS:=Lh (cK.ofS0 eA bP)
 have fV:=Lh bP
 clear h1 iL bP eA iR B1
 ((repeat revert K);refine vS ?_;intro K hK)
 (refine cJ [0,1,2,7,8,9] fun f=>?_)
 have hz:Xv 0 0 []:=⟨fun h=>absurd h (by decide),fun h=>absurd h.1 (by decide)⟩
 have Sh:cO v1∨(q=none∧(0:UInt8)=0∧(0:UInt8)=0∧rest=rest):=by
  cases q with
  | none=>exact Or.inr ⟨rfl,rfl,rfl,rfl⟩
  | some qb=>exact Or.inl ((HQ.out (by simp)).of_iff fV.out)
 refine wp_loop_ghost_k (a0T x c w v q cd rest) rest.length ⟨f,v1,rest,e,0,0,[],rfl,H1.out,iS.out,rfl,rfl,Sh,by simp,hz⟩ ?_
 rintro k _ w2 ⟨f,v2,r2,e2,b0,b1,b2,rfl,h2,gS,OR,JH,gK,y8,hZ⟩ J K2 hJ cY
 refine wp_block ?_
 have kY:b2.length≤8000000000000:=by have:=ON.out;omega
 have ZN:x7 x c w2 v2 q cd (Exit.inBlock 1 (Exit.then K2 (Exit.inBlock 0 (Exit.then K (Exit.noGoto (bodyPost prog Tryz.f58 fun en w'=>∃ v',cK x w v w' v'∧uD x c q cd w' v' en (aX x.o q cd rest 0 0 []))))))) (jR x.o q cd r2 b0 b1 b2):=by
  have Ff:aX x.o q cd rest 0 0 []=_:=JH.trans (P5 x.o q cd r2 b0 b1 b2)
  refine ⟨fun k he f w' v' hE hS=>?_,fun n r' e' b' he f w' v' hR hS hN hNb=>?_,fun r' b0' b1' b' he e' hee f w' v' hR hS hN=>?_⟩
  ·simp only [Exit.inBlock,Exit.then,Exit.noGoto]
   (refine cW ?_)
   refine ⟨v',gS.trans hS,?_⟩
   rw [Ff,he]
   exact ⟨rfl,hE⟩
  ·show K _ _
   obtain ⟨lC,vG,uB,dA⟩:=L8 he hZ
   have hNN:cO v':=by
    rcases gK with h|⟨Xo,h0,h1,tH⟩
    ·exact hN h
    ·obtain ⟨yY,hr⟩:=dA ⟨h0,h1⟩ Xo
     obtain ⟨bb,rr,bP,dJ⟩:=HC.out Xo yY
     rcases hr with hr|⟨r4,hr⟩
     ·rw [tH,bP] at hr;cases hr
     ·rw [tH,bP] at hr;cases hr;exact absurd rfl dJ
   refine hK _ _ (aY (Ib x HX.out c w' v' r' e' b' n hR hNN lC (by rw [vG];omega) _ ?_ ?_ f) (by kernel_rfl))
   ·intro Nu g cap rF f w3 U4 hS3
    simp only [Exit.inBlock,Exit.then,Exit.noGoto]
    (refine cW ?_)
    refine ⟨v',(gS.trans hS).trans hS3,?_⟩
    rw [Ff,he]
    show uD _ _ _ _ _ _ _ (x6 n r' b')
    unfold x6
    rw [if_pos Nu]
    have bF:(b'.take (b'.length-n)).length=b'.length-n:=by rw [List.length_take];omega
    exact ⟨g,cap,e',b',by rw [bF],U4,rF,by rw [bF],by rw [bF];omega,uB,hNb⟩
   ·intro Nu f w3 v3 hE3 hS3
    simp only [Exit.inBlock,Exit.then,Exit.noGoto]
    (refine cW ?_)
    refine ⟨v3,(gS.trans hS).trans hS3,?_⟩
    rw [Ff,he]
    show uD _ _ _ _ _ _ _ (x6 n r' b')
    unfold x6
    rw [Nu]
    exact ⟨rfl,hE3⟩
  ·obtain ⟨BV,QC,Xw⟩:=U1 xP.out.ents he hZ
   have ZO:K2 (fr 381 f [(0,bS x),(1,.int .i64 (qI q)),(2,.bool cd),(7,.int .u8 b0'.toNat),(8,.int .u8 b1'.toNat),(9,.int .i64 0)]) w':=
    cY _ _ ⟨r'.length,by rw [OR];exact BV,hJ _ _ _ ⟨f,v',r',none,b0',b1',b',rfl,hR,gS.trans hS,rfl,by rw [Ff,he],Or.inl hN,by omega,Xw⟩⟩
   rcases hee with rfl|rfl
   ·exact ZO
   ·exact ZO
 cases r2 with
 | nil=>exact aY (FS x HX.out c HD.out q cd w2 v2 e2 b2 b0 b1 h2 _ ZN f) (by kernel_rfl)
 | cons b r3=>exact aY (DK x HX.out c HD.out xP.out.ent xP.out.ents q cd w2 v2 e2 b r3 b2 b0 b1 h2 (gK.imp id (fun h=>⟨h.2.1,h.2.2.1⟩)) kY _ ZN f) (by kernel_rfl)
abbrev Xx (v:Value):Value:=.iface 118 v
def MB (x:Cx) (c:DC) (w':World) (v':DV) (en:Ending):Except EK (Bs×Bs)→Prop
 | .error k=>en=.returned (.tuple #[.nilIface,v'.err])∧jP x c w' v' k
 | .ok (d,r)=>∃ g cap e b,en=.returned (.tuple #[Xx (.slice (some ⟨g,0,none⟩) d.length cap),.nilIface])∧bX x c w' v' r e b∧v'.bufv=.slice (some ⟨g,0,none⟩) b.length cap∧d=b.take d.length∧d.length≤b.length∧(r=[]→e=some (qK x.o.fails))
theorem ZP (w:World):(binOp .eql 77 (.slice none 0 0) (.slice none 0 0)).run prog w=.ok (.bool true) w:=by kernel_rfl
theorem QD (a:Addr) (l c:Nat) (w:World):(binOp .eql 77 (.slice (some a) l c) (.slice none 0 0)).run prog w=.ok (.bool false) w:=by kernel_rfl
theorem Ii (x:Cx) (hx:x.All) (c:DC) (dR:iU x c) (jL:wL x c) (MC:c.needClose=false) (w:World) (v:DV) (b:UInt8) (r:Bs) (buf:Bs) (hb:b≠60) (h:bX x c w v (b::r) none buf) :
  Calls prog 29 #[bS x] w fun en w'=>∃ v',cK x w v w' v'∧MB x c w' v' en (aX x.o none false (b::r) 0 0 []):=by
 have hg:=Lh (qN x hx.toOk c dR w v b r none buf h)
 have kC:=Lh h.suf
 have HX:=Lh hx
 have HD:=Lh dR
 have xP:=Lh jL
 have HB:=Lh hb
 have hc:=h.dec.cell
 have hf:=h.dec.frozen
 have he:v.err=.nilIface:=h.err
 have a3m:=eU hb (n:=60) rfl
 have a5O:((b.toNat:Int) != 60)=true:=by simpa using a3m
 clear h hx dR jL hb
 refine eJ 731 func29 [_] fun f=>?_
 simp only [aE]
 (refine vg ?_;(repeat with_reducible intro K hK))
 refine hg.out.mono ?_
 rintro e1 w1 ⟨rfl,v1,h1,iL,bP,eA,_⟩
 have iW:=Lh (gZ x HX.out.toOk c w1 v1 b r _ h1 iL kC.out)
 have iS:=Lh (eA.stp bP)
 clear h1 iL bP eA hg hc hf
 ((repeat revert K);refine vS ?_;(repeat with_reducible intro K hK))
 refine iW.out.mono ?_
 rintro e2 w2 ⟨rfl,v2,h2,_,dJ,iA,_⟩
 have MD:=Lh (QB x HX.out c HD.out xP.out none false w2 v2 (b::r) none buf h2 (fun h=>absurd rfl h) (fun _ _=>⟨b,r,rfl,HB.out⟩))
 have gH:=Lh (iS.out.s0 iA dJ)
 clear h2 dJ iA iW he
 ((repeat revert K);refine vS ?_;(repeat with_reducible intro K hK))
 rw [show (-1:Int)=qI none from rfl]
 refine MD.out.mono ?_
 rintro e3 w3 ⟨v3,R1,hp⟩
 have wH:=Lh (gH.out.trans R1)
 clear R1 MD
 cases bR:aX x.o none false (b::r) 0 0 [] with
 | error k=>
  rw [bR] at hp
  obtain ⟨rfl,hE⟩:=hp
  have hc:=hE.dec.cell
  have hf:=hE.dec.frozen
  have HE:=Lh hE
  have dB:=Lh bR
  clear hE bR
  have q1:=fun w=>ZP w
  ((repeat revert K);refine vS ?_;(repeat with_reducible intro K hK))
  (refine cJ [0] fun f=>?_)
  go_quiet (fail)
  ((repeat revert K);refine vg ?_;(repeat with_reducible intro K hK))
  (refine kX ?_)
  refine ⟨v3,wH.out.trans (cK.drewN _),?_⟩
  rw [dB.out]
  exact ⟨rfl,⟨cA HE.out.base _,HE.out.dec,HE.out.err⟩⟩
 | ok dr=>
  obtain ⟨d,r'⟩:=dr
  rw [bR] at hp
  obtain ⟨g,cap,e,b',rfl,hR,rF,nR,FI,uB,_⟩:=hp
  have HR:=Lh hR
  have HBV:=Lh rF
  have FG:=Lh nR
  have Ht:=Lh uB
  have dB:=Lh bR
  clear hR rF nR uB bR
  have q1:=fun a l c w=>QD a l c w
  ((repeat revert K);refine vS ?_;intro K hK)
  (refine kX ?_)
  refine ⟨v3,wH.out,?_⟩
  rw [dB.out]
  exact ⟨g,cap,e,b',rfl,HR.out,HBV.out,FG.out,FI,Ht.out rfl rfl⟩
theorem Si (x:Cx) (c:DC) (w:World) (v:DV) (h:bO w x.d c v) (t:TypeId) (u:Value) (he:v.err=.iface t u) :
  Calls prog 29 #[bS x] w fun en w'=>en=.returned (.tuple #[.nilIface,v.err])∧∃ k,w'=w.drewN k:=by
 have hc:=h.cell
 have hf:=h.frozen
 clear h
 refine eJ 731 func29 [_] fun f=>?_
 simp only [aE]
 (refine vg ?_;(repeat with_reducible intro K hK))
 (refine cJ [0] fun f=>?_)
 go_quiet (fail)
 ((repeat revert K);refine vg ?_;intro K hK)
 (refine kX ?_)
 exact ⟨by rw [he],_,rfl⟩
theorem ZQ (w:World):(binOp .neq 83 (.pointer none) (.pointer none)).run prog w=.ok (.bool false) w:=by kernel_rfl
theorem JI (w:World):(binOp .eql 83 (.pointer none) (.pointer none)).run prog w=.ok (.bool true) w:=by kernel_rfl
theorem ZR (w:World):(binOp .neq 47 .nilIface .nilIface).run prog w=.ok (.bool false) w:=by kernel_rfl
abbrev oO:Value:=.string ⟨#[]⟩
theorem Nx (v:Value) (w:World):(Instr.typeAssert (Xx v) 47 97 true).run prog w=.ok (.tuple #[.agg #[oO,oO,.slice none 0 0],.bool false]) w:=by kernel_rfl
theorem ZS (v:Value) (w:World):(Instr.typeAssert (Xx v) 47 106 true).run prog w=.ok (.tuple #[.agg #[oO,oO],.bool false]) w:=by kernel_rfl
theorem SK (w:World):(binOp .eql 47 .nilIface .nilIface).run prog w=.ok (.bool true) w:=by kernel_rfl
abbrev a3n (kind:Int) (space loc:Bs) (attrs:Value) (text:Bs) (at' line col:Int):Value:=.agg #[.int .i64 kind,aB space,aB loc,attrs,aB text,.int .i64 at',.int .i64 line,.int .i64 col]
theorem aJ.drew {w:World} {b:Nat} {cs:Array Value} {t:TypeId} (h:aJ w b cs t):aJ w.drew b cs t:=h
theorem bG.setCell {w:World} {b off:Nat} {l:Bs} (h:bG w b off l) {a:Addr} (hn:b≠a.block) (u:Value):bG (w.setCell a u) b off l:=fun j hj=>(x1 (dO _ _ _ _ hn) _).trans (h j hj)
theorem bG.drew {w:World} {b off:Nat} {l:Bs} (h:bG w b off l):bG w.drew b off l:=h
theorem a0U (v:Value) (w:World):(Instr.typeAssert (Xx v) 47 118 true).run prog w=.ok (.tuple #[v,.bool true]) w:=by kernel_rfl
theorem Ij (l:Bs) (w:World) (b off cap:Nat) (h:bG w b off l):(convert 118 9 (.slice (some ⟨b,off,none⟩) l.length cap)).run prog w=.ok (aB l) w:=
 Lib.run_convert_whole (P:=prog) w 118 5 9 underlying118 underlying5 underlying9 b off ⟨l.toArray⟩ h.toBytes cap
theorem Sj:Maps.Keyed prog 9:=Maps.string_keyed underlying9
def l4 (w:World) (m n:Nat) (ns:Bs→Option Bs):Prop:=
 ∃ D:DataW Unit,w.ownsMap prog 9 (plainElem prog 9) m n D∧∀ k,(ns k=none→∀ z,D.atKey (.string k) z=z)∧(∀ s,ns k=some s→∀ z,D.atKey (.string k) z=.lit (.string s))∧Maps.has D (.string k)=(ns k).isSome
theorem QE (s:Bs) (h:s.length≤maxLen):keyOf prog 9 (aB s)=some (.string s):=by
 have:=WideMaps.keyOf_string_mk (P:=prog) (k:=9) underlying9 (s:=⟨s.toArray⟩) h
 simpa using this
theorem l4.made (w:World):l4 (w.alloc (.map #[] 0)) w.heap.size 0 (fun _=>none):=
 ⟨.map [],World.ownsMap_made w _ _ _,fun k=>⟨fun _ z=>rfl,⟨fun s h=>(by cases h),rfl⟩⟩⟩
theorem l4.lt {w:World} {m n:Nat} {ns:Bs→Option Bs} (h:l4 w m n ns):m<w.heap.size:=by
 obtain ⟨D,h,_⟩:=h;exact h.lt
theorem l4.mod {w w':World} {m n:Nat} {ns:Bs→Option Bs} {S:Nat→Prop} (h:l4 w m n ns) (hm:aK S w w') (hS:¬ S m):l4 w' m n ns:=by
 obtain ⟨D,h1,h2⟩:=h
 refine ⟨D,?_,h2⟩
 obtain ⟨es,cl,hb,F,hs,hD⟩:=h1
 exact ⟨es,cl,(hm.block m (by
  rcases Nat.lt_or_ge m w.heap.size with h'|h'
  ·exact h'
  ·simp [Array.getElem?_eq_none h'] at hb) hS).trans hb,F,hs,hD⟩
theorem Ik (w:World):(zeroValue 9).run prog w=.ok (.string ⟨#[]⟩) w:=by kernel_rfl
theorem SL (s:Bs) (h:s.length≤maxLen):plainElem (H:=Unit) prog 9 (aB s)=some (.lit (.string s),[]):=by
 have:=plainElem_string (H:=Unit) (P:=prog) (e:=9) underlying9 (s:=⟨s.toArray⟩) h
 simpa using this
theorem l4.look {w:World} {m n:Nat} {ns:Bs→Option Bs} (h:l4 w m n ns) (k:Bs) (WZ:k.length≤maxLen) :
  (Instr.lookup 71 (.map (some m)) (aB k) true).run prog w=.ok (.tuple #[aB ((ns k).getD []),.bool (ns k).isSome]) w:=by
 obtain ⟨D,h1,h2⟩:=h
 obtain ⟨a1,a2,a3⟩:=h2 k
 obtain ⟨v,ps,hr,hv⟩:=h1.look_ok (t:=71) (e:=9) Sj underlying71 (Ik w) (zd:=.lit (.string [])) (zp:=[]) (SL [] (by simp)) (QE k WZ)
 rw [hr,a3]
 obtain ⟨s,rfl,hz,_⟩:=plainElem_string_inv underlying9 hv
 have hs:DataW.lit (H:=Unit) (.string s.data.toList)=.lit (.string ((ns k).getD [])):=by
  have iR:=(congrArg Prod.fst hz).symm
  simp only at iR
  rw [iR]
  cases hk:ns k with
  | none=>rw [a1 hk];rfl
  | some t=>rw [a2 t hk];rfl
 have gS:s.data.toList=(ns k).getD []:=by
  simp only [DataW.lit.injEq,Lit.string.injEq] at hs;exact hs
 have R1:s=⟨((ns k).getD []).toArray⟩:=by
  apply ByteArray.ext;apply Array.toList_inj.1;rw [gS]
 rw [R1]
theorem mL {w w':World} {m:Nat} (h:w.mapTurned w' m):aK (fun k=>k=m) w w':=by
 have g:=h.grown
 exact ⟨g.os,g.tape,g.output,g.size,fun k hk hn=>g.block k hk (by simpa using hn)⟩
theorem yB (s:Bs):WideAt.IsKeyLit (.string s):=trivial
theorem l4.store {w:World} {m n:Nat} {ns:Bs→Option Bs} (h:l4 w m n ns) (hn:n<maxLen) (k v:Bs) (WZ:k.length≤maxLen) (hv:v.length≤maxLen) :
  ∃ w',(Instr.mapUpdate 71 (.map (some m)) (aB k) (aB v)).run prog w=.ok () w'∧l4 w' m (n+1) (kL ns k (some v))∧w.mapTurned w' m:=by
 obtain ⟨D,h1,h2⟩:=h
 obtain ⟨w',hr,ho,ht⟩:=h1.store (t:=71) (e:=9) Sj underlying71 hn (QE k WZ) (SL v hv)
 refine ⟨w',hr,⟨_,ho,fun k'=>?_⟩,ht⟩
 unfold kL
 by_cases hk:k'=k
 ·subst hk
  simp only [if_true]
  refine ⟨fun hh=>(by cases hh),fun s hs z=>?_,?_⟩
  ·cases hs;exact Maps.atKey_put_same h1.isMap (yB _) _ _
  ·exact Maps.has_put_same h1.isMap (yB _) _
 ·simp only [if_neg hk]
  have cB:Lit.string k'≠Lit.string k:=by simpa using hk
  obtain ⟨a1,a2,a3⟩:=h2 k'
  exact ⟨fun hh z=>by rw [Maps.atKey_put_other cB];exact a1 hh z,fun s hs z=>by rw [Maps.atKey_put_other cB];exact a2 s hs z,by rw [Maps.has_put_other cB];exact a3⟩
theorem l4.drop {w:World} {m n:Nat} {ns:Bs→Option Bs} (h:l4 w m n ns) (k:Bs) (WZ:k.length≤maxLen) (ty:TypeId) :
  ∃ w',(Builtin.delete_ #[71,9] ty #[.map (some m),aB k]).run prog w=.ok (.tuple #[]) w'∧l4 w' m n (kL ns k none)∧w.mapTurned w' m:=by
 obtain ⟨D,h1,h2⟩:=h
 obtain ⟨w',hr,ho,ht⟩:=h1.drop (t:=71) (e:=9) Sj underlying71 (QE k WZ) ty
 refine ⟨w',hr,⟨_,ho,fun k'=>?_⟩,ht⟩
 unfold kL
 by_cases hk:k'=k
 ·subst hk
  simp only [if_true]
  exact ⟨fun _ z=>Maps.atKey_del_same z,fun s hs=>(by cases hs),Maps.has_del_same⟩
 ·simp only [if_neg hk]
  have cB:Lit.string k'≠Lit.string k:=by simpa using hk
  obtain ⟨a1,a2,a3⟩:=h2 k'
  exact ⟨fun hh z=>by rw [Maps.atKey_del_other cB];exact a1 hh z,fun s hs z=>by rw [Maps.atKey_del_other cB];exact a2 s hs z,by rw [Maps.has_del_other cB];exact a3⟩
@[go_sem] def kB (nx:Value) (k:Int) (sp loc:Bs) (ok:Bool):Array Value:=#[nx,.int .i64 k,aB sp,aB loc,.bool ok]
def jB (w:World):Value→List mQ→List Nat→Prop
 | p,[],[]=>p=.pointer none
 | p,e::l,b::bs=>p=.pointer (some ⟨b,0,none⟩)∧∃ nx ok,aJ w b (kB nx e.kind e.space e.loc ok) 91∧(e.kind=1→ok=e.ok)∧jB w nx l bs
 | _,_,_=>False
theorem jB.mod {w w':World} {S:Nat→Prop} (hm:aK S w w'):∀ {p:Value} {l:List mQ} {bs:List Nat},jB w p l bs→(∀ b∈bs,¬ S b)→jB w' p l bs
 | p,[],[],h,_=>h
 | p,e::l,b::bs,h,hS=>by
  obtain ⟨hp,nx,ok,hb,hk,hr⟩:=h
  exact ⟨hp,nx,ok,hb.mod hm (hS b (by simp)),hk,jB.mod hm hr (fun c hc=>hS c (by simp [hc]))⟩
 | _,[],_::_,h,_=>h.elim
 | _,_::_,[],h,_=>h.elim
theorem jB.lt {w:World}:∀ {p:Value} {l:List mQ} {bs:List Nat},jB w p l bs→∀ b∈bs,b<w.heap.size
 | p,[],[],h,b,hb=>by simp at hb
 | p,e::l,b::bs,h,c,hc=>by
  obtain ⟨hp,nx,ok,hb,hk,hr⟩:=h
  simp only [List.mem_cons] at hc
  rcases hc with rfl|hc
  ·exact hb.lt
  ·exact hr.lt c hc
 | _,[],_::_,h,_,_=>h.elim
 | _,_::_,[],h,_,_=>h.elim
structure nX (x:Cx) (w:World) (c:DC) (v:DV) (m:Nat) (sb fb:List Nat) (n:Nat) (stk:List mQ) (ns:Bs→Option Bs):Prop where
 stk:jB w c.stk stk sb
 free:∃ fl,jB w c.free fl fb
 map:c.ns=.map (some m)
 ns:l4 w m n ns
 nodup:(m::(sb++fb)).Nodup
 base:∀ b∈m::(sb++fb),x.B≤b
 s1:∀ b∈m::(sb++fb),¬ x.S1 v b
theorem nX.lt {x:Cx} {w:World} {c:DC} {v:DV} {m:Nat} {sb fb:List Nat} {n:Nat} {stk:List mQ} {ns:Bs→Option Bs} (h:nX x w c v m sb fb n stk ns):∀ b∈m::(sb++fb),b<w.heap.size:=by
 intro b hb
 simp only [List.mem_cons,List.mem_append] at hb
 rcases hb with rfl|hb|hb
 ·exact h.ns.lt
 ·exact h.stk.lt b hb
 ·obtain ⟨fl,hf⟩:=h.free;exact hf.lt b hb
theorem nX.mod {x:Cx} {w w':World} {c:DC} {v v':DV} {m:Nat} {sb fb:List Nat} {n:Nat} {stk:List mQ} {ns:Bs→Option Bs} {S:Nat→Prop} (h:nX x w c v m sb fb n stk ns) (hm:aK S w w') (hS:∀ b∈m::(sb++fb),¬ S b) (hv:∀ b∈m::(sb++fb),¬ x.S1 v' b):nX x w' c v' m sb fb n stk ns:=by
 obtain ⟨fl,hf⟩:=h.free
 exact ⟨h.stk.mod hm (fun b hb=>hS b (by simp [hb])),⟨fl,hf.mod hm (fun b hb=>hS b (by simp [hb]))⟩,h.map,h.ns.mod hm (hS m (by simp)),h.nodup,h.base,hv⟩
theorem nX.step {x:Cx} {w w':World} {c:DC} {v v':DV} {m:Nat} {sb fb:List Nat} {n:Nat} {stk:List mQ} {ns:Bs→Option Bs} (h:nX x w c v m sb fb n stk ns) (hs:cK x w v w' v'):nX x w' c v' m sb fb n stk ns:=by
 refine h.mod hs.mod (fun b hb=>h.s1 b hb) (fun b hb hk=>?_)
 rcases hk with hk|hk
 ·exact h.s1 b hb (Or.inl hk)
 ·rcases hs.buf b hk with hk|hk
  ·exact h.s1 b hb (Or.inr hk)
  ·have:=h.lt b hb;omega
end Go.Proofs.YtdjdjbpnbjdaaaaGreatDoor
