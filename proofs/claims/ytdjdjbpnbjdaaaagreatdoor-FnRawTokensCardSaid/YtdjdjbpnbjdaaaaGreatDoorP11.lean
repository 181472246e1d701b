/- Part of the proof that laws.FnRawTokens returns true for every argument. No conditions. -/
import Derived.Test.YtdjdjbpnbjdaaaaGreatDoorP10
import Derived.Test.YtdjdjbpnbjdaaaaGreatDoorP02
import Derived.Laws.BitsLemmas
import Derived.LoopN
set_option linter.all false
set_option maxHeartbeats 8000000
set_option maxRecDepth 100000
namespace Go.Proofs.YtdjdjbpnbjdaaaaGreatDoor
open Go Go.RowKit Tryz
theorem lO (T:Bs) (i j:Nat):(⟨T.toArray⟩:ByteArray).extract i j=⟨((T.drop i).take (j-i)).toArray⟩:=by
 apply ByteArray.ext
 rw [ByteArray.data_extract]
 simp [List.extract_eq_take_drop]
theorem Hs (T:Bs) (a:Nat) (ha:a<T.length) (h:cP (T.getD a 0)=true):aD (T.drop a)=(T.getD a 0::(aD (T.drop (a+1))).1,(aD (T.drop (a+1))).2):=by
 rw [List.drop_eq_getElem_cons ha]
 have e:T[a]=T.getD a 0:=by simp [List.getD_eq_getElem?_getD,ha]
 rw [e]
 conv=>lhs;unfold aD
 rw [if_pos h]
theorem UP (T:Bs) (a:Nat) (h:a<T.length→cP (T.getD a 0)=false):aD (T.drop a)=([],T.drop a):=by
 by_cases ha:a<T.length
 ·have e:T[a]=T.getD a 0:=by simp [List.getD_eq_getElem?_getD,ha]
  rw [List.drop_eq_getElem_cons ha,e]
  conv=>lhs;unfold aD
  rw [if_neg (by rw [h ha];simp)]
 ·rw [List.drop_eq_nil_of_le (by omega)];rfl
theorem zP (T:Bs) (i a:Nat) (h:i≤a) (ha:a<T.length):(T.drop i).take (a+1-i)=(T.drop i).take (a-i)++[T.getD a 0]:=by
 rw [show a+1-i=(a-i)+1 by omega,List.take_add_one,List.getElem?_drop,show i+(a-i)=a by omega,List.getElem?_eq_getElem ha]
 simp [List.getD_eq_getElem?_getD,ha]
theorem jG (T:Bs) (a:Nat) (ha:a<T.length):∀ h,(⟨T.toArray⟩:ByteArray)[a]'h=T.getD a 0:=fun h=>by
 show T.toArray[a]=_
 simp [List.getD_eq_getElem?_getD,ha]
def Ns (x:PX) (c:PC) (w0:World) (k:Nat) (ac:Act) (w:World):Prop:=
 ∃ f a,ac=fr 53 f [(0,oM x),(3,.int .i64 (c.at':Nat))]∧aU x w { c with at':=a }∧aK (fun k=>k=x.p) w0 w∧k=x.T.length-a∧a≤x.T.length∧c.at'≤a∧aD (x.T.drop c.at')=((x.T.drop c.at').take (a-c.at')++(aD (x.T.drop a)).1,(aD (x.T.drop a)).2)
theorem a0I {b:UInt8} (h:128≤b.toNat):cP b=true:=by
 unfold cP
 rw [Bool.or_eq_true]
 left
 rw [decide_eq_true_eq]
 exact UInt8.le_iff_toNat_le.2 h
theorem JE (x:PX) (hT:x.T.length≤1000000000) (w:World) (c:PC) (h:aU x w c) (ha:c.at'≤x.T.length):Calls prog 45 #[oM x] w fun e w'=>∃ a:Nat,e=.returned (aB (aD (x.T.drop c.at')).1)∧aU x w' { c with at':=a }∧aK (fun k=>k=x.p) w w'∧a≤x.T.length∧c.at'≤a∧(aD (x.T.drop c.at')).2=x.T.drop a:=by
 have hc:=h.cell
 have hf:=h.frozen
 have H:=Lh h
 have HT:=Lh hT
 have HA:=Lh ha
 clear h hT ha
 refine eJ 53 func45 [_] fun f=>?_
 simp only [aE]
 (refine vg ?_;intro K hK)
 (refine cJ [0,3] fun f=>?_)
 refine wp_loop_ghost_k (Ns x c w) (x.T.length-c.at') ⟨f,c.at',rfl,H.out,aK.refl _ w,rfl,HA.out,Nat.le_refl _,by simp⟩ ?_
 clear hc hf
 rintro k _ w2 ⟨f,a,rfl,hp,hm,hk,iK,vV,fY⟩ J K2 hJ cY
 have HJ:=Lh hJ
 have dN:=Lh cY
 have HP:=Lh hp
 have HM:=Lh hm
 have HK:=Lh hk
 have kA:=Lh iK
 have sN:=Lh vV
 have oK:=Lh fY
 have HE:=Lh (fun kk=>x4 x (w2.drewN kk) { c with at':=a } hp)
 have z1:(0:Int)≤(c.at':Int):=by omega
 have z2:(c.at':Int)≤(a:Int):=by omega
 have z3:(a:Int)≤(x.T.length:Int):=by omega
 clear hJ cY hp hm hk iK vV fY
 have uB:∀ (w3:World) (nV:aU x w3 { c with at':=a }) (cD:aK (fun k=>k=x.p) w w3),(a<x.T.length→cP (x.T.getD a 0)=false)→∃ b:Nat,Ending.returned (aB ((x.T.drop c.at').take (a-c.at')))=.returned (aB (aD (x.T.drop c.at')).1)∧aU x w3 { c with at':=b }∧aK (fun k=>k=x.p) w w3∧b≤x.T.length∧c.at'≤b∧(aD (x.T.drop c.at')).2=x.T.drop b:=by
  intro w3 nV cD dA
  have e:=oK.out
  rw [UP x.T a dA] at e
  refine ⟨a,?_,nV,cD,kA.out,sN.out,by rw [e]⟩
  rw [e];simp
 have Ht:=Lh uB
 clear uB
 by_cases bB:a<x.T.length
 ·have he:decide (x.T.length≤a)=false:=by rw [decide_eq_false_iff_not];omega
  obtain ⟨b,hb⟩:∃ b,b=x.T.getD a 0:=⟨_,rfl⟩
  have ix:∀ h,(⟨x.T.toArray⟩:ByteArray)[a]'h=b:=by rw [hb];exact jG x.T a bB
  have pO:=Lh hb
  have t0:(0:Int)≤(a:Int):=by omega
  have t1:(a:Int)<(x.T.length:Int):=by omega
  have Fc:=Lh (fun w=>A4 b.toNat w)
  have HBX:b.toNat≤255:=by have:=b.toNat_lt;omega
  have wb:IntKind.i64.wrap (b.toNat:Int)=(b.toNat:Int):=by rw [IntKind.wrap_i64];omega
  clear hb
  have w1:IntKind.i64.wrap ((a:Int)+1)=((a+1:Nat):Int):=by rw [IntKind.wrap_i64];have:=HT.out;omega
  have AV:∀ (f:Nat→Value) (w3:World) (nV:aU x w3 { c with at':=a+1 }) (cD:aK (fun k=>k=x.p) w w3),cP b=true→Ns x c w (x.T.length-(a+1)) (fr 53 f [(0,oM x),(3,.int .i64 (c.at':Nat))]) w3:=by
   intro f w3 nV cD lC
   refine ⟨f,a+1,rfl,nV,cD,rfl,bB,by have:=sN.out;omega,?_⟩
   rw [oK.out,Hs x.T a bB (by rw [←pO.out];exact lC),zP x.T c.at' a sN.out bB]
   simp
  have W1:=Lh AV
  clear AV
  by_cases Rx:128≤b.toNat
  ·have hg:(128:Int)≤(b.toNat:Int):=by omega
   (revert K;refine vg ?_;(repeat with_reducible intro K hK))
   (refine aI [0,2,0,0,0,0,0,1,0,0,0,1,0,0,0,0,0,0,1,0,0,0,1,0,0,2,0,0] [0,1,2,3,4,5,6,7,8,9,10,11,12,13,14,15,16,17,18,19,20,21,22,23,24,25,26,27] (by kernel_rfl) (by kernel_rfl) ?_;refine vP ?_;repeat with_reducible intro nq)
   (refine bK rfl rfl (fun nq K hK=>?_);go_simp)
   refine (HE.out _).mono ?_
   rintro e3 w3 ⟨rfl,k3,rfl⟩
   have hc:=HP.out.cell
   have hf:=HP.out.frozen
   (go_simp;refine hK.out _ _ ?_;clear hK K)
   (refine vP ?_;repeat with_reducible intro nq)
   ((repeat revert K);refine vg ?_;intro K hK)
   (refine Kk [0,3] fun f=>?_)
   exact dN.out _ _ ⟨x.T.length-(a+1),by rw [HK.out];omega,HJ.out _ _ _ (W1.out f _ (aJ.set (w:=w2.drewN _) (cs:=gV x { c with at':=a }) HP.out 1 _) (aK.setCell (S:=fun k=>k=x.p) (HM.out.drewN _) (p:=⟨x.p,1,none⟩) (Or.inl rfl) _) (a0I Rx))⟩
  ·have hg:¬ (128:Int)≤(b.toNat:Int):=by omega
   have cN:cP b=m5 b.toNat:=(GK (by omega)).symm
   (revert K;refine vg ?_;(repeat with_reducible intro K hK))
   (refine aI [0,2,0,0,0,0,0,1,0,0,0,1,0,0,0,0,0,0,1,0,0,0,1,0,0,2,0,0] [0,1,2,3,4,5,6,7,8,9,10,11,12,13,14,15,16,17,18,19,20,21,22,23,24,25,26,27] (by kernel_rfl) (by kernel_rfl) ?_;refine vP ?_;repeat with_reducible intro nq)
   (refine bK rfl rfl (fun nq K hK=>?_);go_simp)
   refine (HE.out _).mono ?_
   rintro e3 w3 ⟨rfl,k3,rfl⟩
   have hc:=HP.out.cell
   have hf:=HP.out.frozen
   (go_simp;refine hK.out _ _ ?_;clear hK K)
   (refine vP ?_;repeat with_reducible intro nq)
   (refine bK rfl rfl (fun nq K hK=>?_);go_simp)
   refine (Fc.out _).mono ?_
   rintro e4 w4 ⟨rfl,rfl⟩
   (go_simp;refine hK.out _ _ ?_;clear hK K)
   (refine vP ?_;repeat with_reducible intro nq)
   cases vO:m5 b.toNat with
   | true=>
    ((repeat revert K);refine vg ?_;intro K hK)
    (refine Kk [0,3] fun f=>?_)
    exact dN.out _ _ ⟨x.T.length-(a+1),by rw [HK.out];omega,HJ.out _ _ _ (W1.out f _ (aJ.set (w:=w2.drewN _) (cs:=gV x { c with at':=a }) HP.out 1 _) (aK.setCell (S:=fun k=>k=x.p) (HM.out.drewN _) (p:=⟨x.p,1,none⟩) (Or.inl rfl) _) (cN.trans vO))⟩
   | false=>
    ((repeat revert K);refine vg ?_;intro K hK)
    (refine aI [0,0,0,1,0,0,0,0,1,0,0] [0,1,2,3,4,5,6,7,8,9,10] (by kernel_rfl) (by kernel_rfl) ?_;refine vP ?_;repeat with_reducible intro nq)
    (revert K;refine vg ?_)
    (refine cW ?_)
    rw [lO]
    exact Ht.out _ HP.out ⟨HM.out.os,HM.out.tape,HM.out.output,HM.out.size,HM.out.block⟩ (fun _=>by rw [←pO.out,cN];exact vO)
 ·have he:decide (x.T.length≤a)=true:=by rw [decide_eq_true_iff];omega
  (revert K;refine vg ?_;(repeat with_reducible intro K hK))
  (refine aI [0,2,0,0,0,0,0,1,0,0,0,1,0,0,0,0,0,0,1,0,0,0,1,0,0,2,0,0] [0,1,2,3,4,5,6,7,8,9,10,11,12,13,14,15,16,17,18,19,20,21,22,23,24,25,26,27] (by kernel_rfl) (by kernel_rfl) ?_;refine vP ?_;repeat with_reducible intro nq)
  (refine bK rfl rfl (fun nq K hK=>?_);go_simp)
  refine (HE.out _).mono ?_
  rintro e3 w3 ⟨rfl,k3,rfl⟩
  (go_simp;refine hK.out _ _ ?_;clear hK K)
  (refine vP ?_;repeat with_reducible intro nq)
  have hc:=HP.out.cell
  have hf:=HP.out.frozen
  ((repeat revert K);refine vg ?_;intro K hK)
  (refine aI [0,0,0,1,0,0,0,0,1,0,0] [0,1,2,3,4,5,6,7,8,9,10] (by kernel_rfl) (by kernel_rfl) ?_;refine vP ?_;repeat with_reducible intro nq)
  (revert K;refine vg ?_)
  (refine cW ?_)
  rw [lO]
  exact Ht.out _ HP.out ⟨HM.out.os,HM.out.tape,HM.out.output,HM.out.size,HM.out.block⟩ (fun h=>absurd h bB)
theorem ZI (d:UInt8):bits .and .u8 (d.toNat:Int) 192=((d.toNat / 64*64:Nat):Int):=by
 have h:=(bits_nat .u8 8 (by decide) wraps_u8 d.toNat 192 (by have:=d.toNat_lt;omega) (by decide)).1
 have k:∀ n:Fin 256,n.val &&& 192=n.val / 64*64:=by decide
 have:=k ⟨d.toNat,d.toNat_lt⟩
 simp only at this
 rw [←this];exact h
theorem fE (d:UInt8) (h:d.toNat / 64=2):(bits .and .u8 (d.toNat:Int) 192 != 128)=false:=by
 rw [ZI,h];rfl
theorem vF (d:UInt8) (h:d.toNat / 64≠2):(bits .and .u8 (d.toNat:Int) 192 != 128)=true:=by
 rw [ZI];simp only [bne_iff_ne,ne_eq];omega
theorem kR (d:UInt8):bits .and .u8 (d.toNat:Int) 63=((d.toNat % 64:Nat):Int):=by
 have:=u8_and63 d.toNat (by omega) (by have:=d.toNat_lt;omega)
 rw [this];rfl
theorem kS (n:Int) (h₀:0≤n) (h₁:n<2 ^ 60):IntKind.i64.wrap n=n:=by rw [IntKind.wrap_i64];omega
theorem jH (c:UInt8):bits .and .i64 (c.toNat:Int) 31=((c.toNat % 32:Nat):Int)∧bits .and .i64 (c.toNat:Int) 15=((c.toNat % 16:Nat):Int)∧bits .and .i64 (c.toNat:Int) 7=((c.toNat % 8:Nat):Int):=by
 have hl:(c.toNat:Int)<2 ^ 60:=by have:=c.toNat_lt;omega
 have h0:(0:Int)≤(c.toNat:Int):=by omega
 have h5:=bits_mask .i64 60 (by decide) kS 5 (by decide) _ h0 hl
 have h4:=bits_mask .i64 60 (by decide) kS 4 (by decide) _ h0 hl
 have h3:=bits_mask .i64 60 (by decide) kS 3 (by decide) _ h0 hl
 exact ⟨h5,h4,h3⟩
theorem kT (r y:Nat) (hr:r<2 ^ 30) (hy:y<64):IntKind.i64.wrap ((r:Int)*64)=(r:Int)*64∧IntKind.i64.wrap (y:Int)=(y:Int)∧bits .or .i64 ((r:Int)*64) (y:Int)=((r*64+y:Nat):Int):=by
 refine ⟨kS _ (by omega) (by omega),kS _ (by omega) (by omega),?_⟩
 rw [bits_join .i64 60 (by decide) kS 6 _ _ (by omega) (by omega) (by omega) (by omega) (by omega) (by omega)]
 push_cast;rfl
theorem cl1 {c:UInt8} (h:c.toNat<128):((c.toNat:Int)<128)∧¬ ((194:Int)≤(c.toNat:Int))∧((c.toNat:Int)<224)∧¬ ((224:Int)≤(c.toNat:Int))∧((c.toNat:Int)<240)∧¬ ((240:Int)≤(c.toNat:Int))∧((c.toNat:Int)<245)∧IntKind.i64.wrap (c.toNat:Int)=(c.toNat:Int)∧c.toNat<256:=by
 have:=c.toNat_lt
 have hw:IntKind.i64.wrap (c.toNat:Int)=(c.toNat:Int):=by rw [IntKind.wrap_i64];omega
 refine ⟨?_,?_,?_,?_,?_,?_,?_,hw,this⟩<;>omega
theorem cl2 {c:UInt8} (h:194≤c.toNat∧c.toNat<224):¬ ((c.toNat:Int)<128)∧((194:Int)≤(c.toNat:Int))∧((c.toNat:Int)<224)∧¬ ((224:Int)≤(c.toNat:Int))∧((c.toNat:Int)<240)∧¬ ((240:Int)≤(c.toNat:Int))∧((c.toNat:Int)<245)∧IntKind.i64.wrap (c.toNat:Int)=(c.toNat:Int)∧c.toNat<256:=by
 have:=c.toNat_lt
 have hw:IntKind.i64.wrap (c.toNat:Int)=(c.toNat:Int):=by rw [IntKind.wrap_i64];omega
 refine ⟨?_,?_,?_,?_,?_,?_,?_,hw,this⟩<;>omega
theorem Xu {c:UInt8} (h:224≤c.toNat∧c.toNat<240):¬ ((c.toNat:Int)<128)∧((194:Int)≤(c.toNat:Int))∧¬ ((c.toNat:Int)<224)∧((224:Int)≤(c.toNat:Int))∧((c.toNat:Int)<240)∧¬ ((240:Int)≤(c.toNat:Int))∧((c.toNat:Int)<245)∧IntKind.i64.wrap (c.toNat:Int)=(c.toNat:Int)∧c.toNat<256:=by
 have:=c.toNat_lt
 have hw:IntKind.i64.wrap (c.toNat:Int)=(c.toNat:Int):=by rw [IntKind.wrap_i64];omega
 refine ⟨?_,?_,?_,?_,?_,?_,?_,hw,this⟩<;>omega
theorem Ry {c:UInt8} (h:240≤c.toNat∧c.toNat<245):¬ ((c.toNat:Int)<128)∧((194:Int)≤(c.toNat:Int))∧¬ ((c.toNat:Int)<224)∧((224:Int)≤(c.toNat:Int))∧¬ ((c.toNat:Int)<240)∧((240:Int)≤(c.toNat:Int))∧((c.toNat:Int)<245)∧IntKind.i64.wrap (c.toNat:Int)=(c.toNat:Int)∧c.toNat<256:=by
 have:=c.toNat_lt
 have hw:IntKind.i64.wrap (c.toNat:Int)=(c.toNat:Int):=by rw [IntKind.wrap_i64];omega
 refine ⟨?_,?_,?_,?_,?_,?_,?_,hw,this⟩<;>omega
theorem L5 {l:Bs} {k:Nat} (h:k+1≤l.length):l.isEmpty=false∧(0:Int)<(l.length:Int)∧0<l.length:=by
 refine ⟨?_,by omega,by omega⟩
 cases l with
 | nil=>simp at h
 | cons=>rfl
theorem UQ (l:Bs) (c:UInt8) (w:World) (hl:1≤l.length) (i0:∀ h,(⟨l.toArray⟩:ByteArray)[0]'h=c) (hc:c.toNat<128) :
  Calls prog 51 #[(.string ⟨l.toArray⟩)] w fun e w'=>e=.returned (.tuple #[.int .i64 (c.toNat:Int),.int .i64 1])∧w=w':=by
 obtain ⟨q0,q1,q2,q3,q4,q5,q6,L6,mB⟩:=cl1 hc
 obtain ⟨he,wJ,pH⟩:=L5 hl
 refine eJ 92 func51 [_] fun f=>?_
 simp only [aE]
 (refine vg ?_;intro K hK)
 (refine kX ?_)
 exact ⟨rfl,rfl⟩
theorem ZJ (l:Bs) (c:UInt8) (w:World) (hl:1≤l.length) (i0:∀ h,(⟨l.toArray⟩:ByteArray)[0]'h=c) (hc:(128≤c.toNat∧c.toNat<194)∨245≤c.toNat) :
  Calls prog 51 #[(.string ⟨l.toArray⟩)] w fun e w'=>e=.returned (.tuple #[.int .i64 0,.int .i64 0])∧w=w':=by
 rcases hc with hc|hc
 all_goals
  have mB:=c.toNat_lt
  first|have:((c.toNat:Int)<128):=by omega|have:¬ (((c.toNat:Int)<128)):=by omega
  first|have:((194:Int)≤(c.toNat:Int)):=by omega|have:¬ (((194:Int)≤(c.toNat:Int))):=by omega
  first|have:((c.toNat:Int)<224):=by omega|have:¬ (((c.toNat:Int)<224)):=by omega
  first|have:((224:Int)≤(c.toNat:Int)):=by omega|have:¬ (((224:Int)≤(c.toNat:Int))):=by omega
  first|have:((c.toNat:Int)<240):=by omega|have:¬ (((c.toNat:Int)<240)):=by omega
  first|have:((240:Int)≤(c.toNat:Int)):=by omega|have:¬ (((240:Int)≤(c.toNat:Int))):=by omega
  first|have:((c.toNat:Int)<245):=by omega|have:¬ (((c.toNat:Int)<245)):=by omega
  have L6:IntKind.i64.wrap (c.toNat:Int)=(c.toNat:Int):=by rw [IntKind.wrap_i64];omega
  have he:l.isEmpty=false:=by cases l with
   | nil=>simp at hl
   | cons=>rfl
  have wJ:(0:Int)<(l.length:Int):=by omega
  have pH:0<l.length:=by omega
  refine eJ 92 func51 [_] fun f=>?_
  simp only [aE]
  (refine vg ?_;intro K hK)
  (refine kX ?_)
  exact ⟨rfl,rfl⟩
theorem P1 (l:Bs) (c:UInt8) (w:World) (hl:1≤l.length) (hs:l.length<2) (i0:∀ h,(⟨l.toArray⟩:ByteArray)[0]'h=c) (hc:194≤c.toNat∧c.toNat<224) :
  Calls prog 51 #[(.string ⟨l.toArray⟩)] w fun e w'=>e=.returned (.tuple #[.int .i64 0,.int .i64 0])∧w=w':=by
 obtain ⟨q0,q1,q2,q3,q4,q5,q6,L6,mB⟩:=cl2 hc
 obtain ⟨he,wJ,pH⟩:=L5 hl
 have L7:(l.length:Int)<2:=by omega
 refine eJ 92 func51 [_] fun f=>?_
 simp only [aE]
 (refine vg ?_;intro K hK)
 (refine kX ?_)
 exact ⟨rfl,rfl⟩
theorem UR (l:Bs) (c d:UInt8) (w:World) (hl:2≤l.length) (i0:∀ h,(⟨l.toArray⟩:ByteArray)[0]'h=c) (i1:∀ h,(⟨l.toArray⟩:ByteArray)[1]'h=d) (hc:194≤c.toNat∧c.toNat<224) (bP:d.toNat / 64≠2) :
  Calls prog 51 #[(.string ⟨l.toArray⟩)] w fun e w'=>e=.returned (.tuple #[.int .i64 0,.int .i64 0])∧w=w':=by
 obtain ⟨q0,q1,q2,q3,q4,q5,q6,L6,mB⟩:=cl2 hc
 obtain ⟨he,wJ,pH⟩:=L5 hl
 have L7:¬ ((l.length:Int)<2):=by omega
 have iL:1<l.length:=by omega
 have A5:(1:Int)<(l.length:Int):=by omega
 have eA:=vF d bP
 have n7:IntKind.i64.wrap 2=2:=rfl
 have nV:IntKind.i64.wrap 3=3:=rfl
 have AZ:IntKind.i64.wrap 4=4:=rfl
 have BU:=(jH c).1
 obtain ⟨r0,e0⟩:∃ r0:Nat,r0=c.toNat % 32:=⟨_,rfl⟩
 rw [←e0] at BU
 have JF:=Lh e0
 have SI:r0<32:=by omega
 clear e0
 refine eJ 92 func51 [_] fun f=>?_
 simp only [aE]
 (refine vg ?_;intro K hK)
 refine wp_loop_rounds 1 ?_
 rw [rounds_succ]
 (revert K;refine vg ?_;(repeat with_reducible intro K hK))
 (refine kX ?_)
 exact ⟨rfl,rfl⟩
theorem Hu (l:Bs) (c d:UInt8) (w:World) (hl:2≤l.length) (i0:∀ h,(⟨l.toArray⟩:ByteArray)[0]'h=c) (i1:∀ h,(⟨l.toArray⟩:ByteArray)[1]'h=d) (hc:194≤c.toNat∧c.toNat<224) (bP:d.toNat / 64=2) (hr:True) :
  Calls prog 51 #[(.string ⟨l.toArray⟩)] w fun e w'=>e=.returned (.tuple #[.int .i64 (((c.toNat % 32)*64+d.toNat % 64:Nat):Int),.int .i64 2])∧w=w':=by
 obtain ⟨q0,q1,q2,q3,q4,q5,q6,L6,mB⟩:=cl2 hc
 obtain ⟨he,wJ,pH⟩:=L5 hl
 have L7:¬ ((l.length:Int)<2):=by omega
 have iL:1<l.length:=by omega
 have A5:(1:Int)<(l.length:Int):=by omega
 have eA:=fE d bP
 have n7:IntKind.i64.wrap 2=2:=rfl
 have nV:IntKind.i64.wrap 3=3:=rfl
 have AZ:IntKind.i64.wrap 4=4:=rfl
 have BU:=(jH c).1
 obtain ⟨r0,e0⟩:∃ r0:Nat,r0=c.toNat % 32:=⟨_,rfl⟩
 rw [←e0] at BU
 have JF:=Lh e0
 have SI:r0<32:=by omega
 clear e0
 have xN:=kR d
 obtain ⟨y1,f1⟩:∃ y:Nat,y=d.toNat % 64:=⟨_,rfl⟩
 rw [←f1] at xN
 have B5:=Lh f1
 have sE:y1<64:=by omega
 clear f1
 obtain ⟨g1a,g1b,g1c⟩:=kT r0 y1 (by omega) sE
 obtain ⟨r1,e1⟩:∃ r:Nat,r=r0*64+y1:=⟨_,rfl⟩
 rw [←e1] at g1c
 have I9:=Lh e1
 have mF:r1<2048:=by omega
 clear e1
 have tH:r1=(c.toNat % 32)*64+d.toNat % 64:=by
  have a0:=JF.out
  have a1:=I9.out
  have b1:=B5.out
  omega
 have OO:=Lh tH
 clear tH
 refine eJ 92 func51 [_] fun f=>?_
 simp only [aE]
 (refine vg ?_;intro K hK)
 refine wp_loop_rounds 2 ?_
 rw [rounds_succ]
 (revert K;refine vg ?_;intro K hK)
 rw [rounds_succ]
 (revert K;refine vg ?_)
 (refine kX ?_)
 refine ⟨?_,rfl⟩
 rw [←OO.out]
theorem P2 (l:Bs) (c:UInt8) (w:World) (hl:1≤l.length) (hs:l.length<3) (i0:∀ h,(⟨l.toArray⟩:ByteArray)[0]'h=c) (hc:224≤c.toNat∧c.toNat<240) :
  Calls prog 51 #[(.string ⟨l.toArray⟩)] w fun e w'=>e=.returned (.tuple #[.int .i64 0,.int .i64 0])∧w=w':=by
 obtain ⟨q0,q1,q2,q3,q4,q5,q6,L6,mB⟩:=Xu hc
 obtain ⟨he,wJ,pH⟩:=L5 hl
 have L7:(l.length:Int)<3:=by omega
 refine eJ 92 func51 [_] fun f=>?_
 simp only [aE]
 (refine vg ?_;intro K hK)
 (refine kX ?_)
 exact ⟨rfl,rfl⟩
theorem US (l:Bs) (c d:UInt8) (w:World) (hl:3≤l.length) (i0:∀ h,(⟨l.toArray⟩:ByteArray)[0]'h=c) (i1:∀ h,(⟨l.toArray⟩:ByteArray)[1]'h=d) (hc:224≤c.toNat∧c.toNat<240) (bP:d.toNat / 64≠2) :
  Calls prog 51 #[(.string ⟨l.toArray⟩)] w fun e w'=>e=.returned (.tuple #[.int .i64 0,.int .i64 0])∧w=w':=by
 obtain ⟨q0,q1,q2,q3,q4,q5,q6,L6,mB⟩:=Xu hc
 obtain ⟨he,wJ,pH⟩:=L5 hl
 have L7:¬ ((l.length:Int)<3):=by omega
 have iL:1<l.length:=by omega
 have A5:(1:Int)<(l.length:Int):=by omega
 have eA:=vF d bP
 have n7:IntKind.i64.wrap 2=2:=rfl
 have nV:IntKind.i64.wrap 3=3:=rfl
 have AZ:IntKind.i64.wrap 4=4:=rfl
 have BU:=(jH c).2.1
 obtain ⟨r0,e0⟩:∃ r0:Nat,r0=c.toNat % 16:=⟨_,rfl⟩
 rw [←e0] at BU
 have JF:=Lh e0
 have SI:r0<16:=by omega
 clear e0
 refine eJ 92 func51 [_] fun f=>?_
 simp only [aE]
 (refine vg ?_;intro K hK)
 refine wp_loop_rounds 1 ?_
 rw [rounds_succ]
 (revert K;refine vg ?_;(repeat with_reducible intro K hK))
 (refine kX ?_)
 exact ⟨rfl,rfl⟩
theorem UT (l:Bs) (c d b:UInt8) (w:World) (hl:3≤l.length) (i0:∀ h,(⟨l.toArray⟩:ByteArray)[0]'h=c) (i1:∀ h,(⟨l.toArray⟩:ByteArray)[1]'h=d) (i2:∀ h,(⟨l.toArray⟩:ByteArray)[2]'h=b) (hc:224≤c.toNat∧c.toNat<240) (bP:d.toNat / 64=2) (dJ:b.toNat / 64≠2) :
  Calls prog 51 #[(.string ⟨l.toArray⟩)] w fun e w'=>e=.returned (.tuple #[.int .i64 0,.int .i64 0])∧w=w':=by
 obtain ⟨q0,q1,q2,q3,q4,q5,q6,L6,mB⟩:=Xu hc
 obtain ⟨he,wJ,pH⟩:=L5 hl
 have L7:¬ ((l.length:Int)<3):=by omega
 have iL:1<l.length:=by omega
 have A5:(1:Int)<(l.length:Int):=by omega
 have eA:=fE d bP
 have gK:2<l.length:=by omega
 have y8:(2:Int)<(l.length:Int):=by omega
 have iA:=vF b dJ
 have n7:IntKind.i64.wrap 2=2:=rfl
 have nV:IntKind.i64.wrap 3=3:=rfl
 have AZ:IntKind.i64.wrap 4=4:=rfl
 have BU:=(jH c).2.1
 obtain ⟨r0,e0⟩:∃ r0:Nat,r0=c.toNat % 16:=⟨_,rfl⟩
 rw [←e0] at BU
 have JF:=Lh e0
 have SI:r0<16:=by omega
 clear e0
 have xN:=kR d
 obtain ⟨y1,f1⟩:∃ y:Nat,y=d.toNat % 64:=⟨_,rfl⟩
 rw [←f1] at xN
 have B5:=Lh f1
 have sE:y1<64:=by omega
 clear f1
 obtain ⟨g1a,g1b,g1c⟩:=kT r0 y1 (by omega) sE
 obtain ⟨r1,e1⟩:∃ r:Nat,r=r0*64+y1:=⟨_,rfl⟩
 rw [←e1] at g1c
 have I9:=Lh e1
 have mF:r1<1024:=by omega
 clear e1
 refine eJ 92 func51 [_] fun f=>?_
 simp only [aE]
 (refine vg ?_;intro K hK)
 refine wp_loop_rounds 2 ?_
 rw [rounds_succ]
 (revert K;refine vg ?_;intro K hK)
 rw [rounds_succ]
 (revert K;refine vg ?_;(repeat with_reducible intro K hK))
 (refine kX ?_)
 exact ⟨rfl,rfl⟩
theorem UU (l:Bs) (c d b:UInt8) (w:World) (hl:3≤l.length) (i0:∀ h,(⟨l.toArray⟩:ByteArray)[0]'h=c) (i1:∀ h,(⟨l.toArray⟩:ByteArray)[1]'h=d) (i2:∀ h,(⟨l.toArray⟩:ByteArray)[2]'h=b) (hc:224≤c.toNat∧c.toNat<240) (bP:d.toNat / 64=2) (dJ:b.toNat / 64=2) (hr:(((c.toNat % 16)*64+d.toNat % 64)*64+b.toNat % 64)<2048) :
  Calls prog 51 #[(.string ⟨l.toArray⟩)] w fun e w'=>e=.returned (.tuple #[.int .i64 0,.int .i64 0])∧w=w':=by
 obtain ⟨q0,q1,q2,q3,q4,q5,q6,L6,mB⟩:=Xu hc
 obtain ⟨he,wJ,pH⟩:=L5 hl
 have L7:¬ ((l.length:Int)<3):=by omega
 have iL:1<l.length:=by omega
 have A5:(1:Int)<(l.length:Int):=by omega
 have eA:=fE d bP
 have gK:2<l.length:=by omega
 have y8:(2:Int)<(l.length:Int):=by omega
 have iA:=fE b dJ
 have n7:IntKind.i64.wrap 2=2:=rfl
 have nV:IntKind.i64.wrap 3=3:=rfl
 have AZ:IntKind.i64.wrap 4=4:=rfl
 have BU:=(jH c).2.1
 obtain ⟨r0,e0⟩:∃ r0:Nat,r0=c.toNat % 16:=⟨_,rfl⟩
 rw [←e0] at BU
 have JF:=Lh e0
 have SI:r0<16:=by omega
 clear e0
 have xN:=kR d
 obtain ⟨y1,f1⟩:∃ y:Nat,y=d.toNat % 64:=⟨_,rfl⟩
 rw [←f1] at xN
 have B5:=Lh f1
 have sE:y1<64:=by omega
 clear f1
 obtain ⟨g1a,g1b,g1c⟩:=kT r0 y1 (by omega) sE
 obtain ⟨r1,e1⟩:∃ r:Nat,r=r0*64+y1:=⟨_,rfl⟩
 rw [←e1] at g1c
 have I9:=Lh e1
 have mF:r1<1024:=by omega
 clear e1
 have E4:=kR b
 obtain ⟨y2,f2⟩:∃ y:Nat,y=b.toNat % 64:=⟨_,rfl⟩
 rw [←f2] at E4
 have OP:=Lh f2
 have zQ:y2<64:=by omega
 clear f2
 obtain ⟨g2a,g2b,g2c⟩:=kT r1 y2 (by omega) zQ
 obtain ⟨r2,e2⟩:∃ r:Nat,r=r1*64+y2:=⟨_,rfl⟩
 rw [←e2] at g2c
 have FO:=Lh e2
 have wD:r2<65536:=by omega
 clear e2
 have tH:r2=((c.toNat % 16)*64+d.toNat % 64)*64+b.toNat % 64:=by
  have a0:=JF.out
  have a1:=I9.out
  have b1:=B5.out
  have a2:=FO.out
  have b2:=OP.out
  omega
 rw [←tH] at hr
 have OO:=Lh tH
 clear tH
 first|have:((r2:Int)<2048):=by omega|have:¬ (((r2:Int)<2048)):=by omega
 first|have:((55296:Int)≤(r2:Int)):=by omega|have:¬ (((55296:Int)≤(r2:Int))):=by omega
 first|have:((r2:Int)<57344):=by omega|have:¬ (((r2:Int)<57344)):=by omega
 first|have:((r2:Int)<65536):=by omega|have:¬ (((r2:Int)<65536)):=by omega
 first|have:((1114111:Int)<(r2:Int)):=by omega|have:¬ (((1114111:Int)<(r2:Int))):=by omega
 refine eJ 92 func51 [_] fun f=>?_
 simp only [aE]
 (refine vg ?_;intro K hK)
 refine wp_loop_rounds 3 ?_
 rw [rounds_succ]
 (revert K;refine vg ?_;intro K hK)
 rw [rounds_succ]
 (revert K;refine vg ?_;intro K hK)
 rw [rounds_succ]
 (revert K;refine vg ?_;intro K hK)
 (refine kX ?_)
 refine ⟨?_,rfl⟩
 rfl
theorem UV (l:Bs) (c d b:UInt8) (w:World) (hl:3≤l.length) (i0:∀ h,(⟨l.toArray⟩:ByteArray)[0]'h=c) (i1:∀ h,(⟨l.toArray⟩:ByteArray)[1]'h=d) (i2:∀ h,(⟨l.toArray⟩:ByteArray)[2]'h=b) (hc:224≤c.toNat∧c.toNat<240) (bP:d.toNat / 64=2) (dJ:b.toNat / 64=2) (hr:(55296≤(((c.toNat % 16)*64+d.toNat % 64)*64+b.toNat % 64)∧(((c.toNat % 16)*64+d.toNat % 64)*64+b.toNat % 64)<57344)) :
  Calls prog 51 #[(.string ⟨l.toArray⟩)] w fun e w'=>e=.returned (.tuple #[.int .i64 0,.int .i64 0])∧w=w':=by
 obtain ⟨q0,q1,q2,q3,q4,q5,q6,L6,mB⟩:=Xu hc
 obtain ⟨he,wJ,pH⟩:=L5 hl
 have L7:¬ ((l.length:Int)<3):=by omega
 have iL:1<l.length:=by omega
 have A5:(1:Int)<(l.length:Int):=by omega
 have eA:=fE d bP
 have gK:2<l.length:=by omega
 have y8:(2:Int)<(l.length:Int):=by omega
 have iA:=fE b dJ
 have n7:IntKind.i64.wrap 2=2:=rfl
 have nV:IntKind.i64.wrap 3=3:=rfl
 have AZ:IntKind.i64.wrap 4=4:=rfl
 have BU:=(jH c).2.1
 obtain ⟨r0,e0⟩:∃ r0:Nat,r0=c.toNat % 16:=⟨_,rfl⟩
 rw [←e0] at BU
 have JF:=Lh e0
 have SI:r0<16:=by omega
 clear e0
 have xN:=kR d
 obtain ⟨y1,f1⟩:∃ y:Nat,y=d.toNat % 64:=⟨_,rfl⟩
 rw [←f1] at xN
 have B5:=Lh f1
 have sE:y1<64:=by omega
 clear f1
 obtain ⟨g1a,g1b,g1c⟩:=kT r0 y1 (by omega) sE
 obtain ⟨r1,e1⟩:∃ r:Nat,r=r0*64+y1:=⟨_,rfl⟩
 rw [←e1] at g1c
 have I9:=Lh e1
 have mF:r1<1024:=by omega
 clear e1
 have E4:=kR b
 obtain ⟨y2,f2⟩:∃ y:Nat,y=b.toNat % 64:=⟨_,rfl⟩
 rw [←f2] at E4
 have OP:=Lh f2
 have zQ:y2<64:=by omega
 clear f2
 obtain ⟨g2a,g2b,g2c⟩:=kT r1 y2 (by omega) zQ
 obtain ⟨r2,e2⟩:∃ r:Nat,r=r1*64+y2:=⟨_,rfl⟩
 rw [←e2] at g2c
 have FO:=Lh e2
 have wD:r2<65536:=by omega
 clear e2
 have tH:r2=((c.toNat % 16)*64+d.toNat % 64)*64+b.toNat % 64:=by
  have a0:=JF.out
  have a1:=I9.out
  have b1:=B5.out
  have a2:=FO.out
  have b2:=OP.out
  omega
 rw [←tH] at hr
 have OO:=Lh tH
 clear tH
 first|have:((r2:Int)<2048):=by omega|have:¬ (((r2:Int)<2048)):=by omega
 first|have:((55296:Int)≤(r2:Int)):=by omega|have:¬ (((55296:Int)≤(r2:Int))):=by omega
 first|have:((r2:Int)<57344):=by omega|have:¬ (((r2:Int)<57344)):=by omega
 first|have:((r2:Int)<65536):=by omega|have:¬ (((r2:Int)<65536)):=by omega
 first|have:((1114111:Int)<(r2:Int)):=by omega|have:¬ (((1114111:Int)<(r2:Int))):=by omega
 refine eJ 92 func51 [_] fun f=>?_
 simp only [aE]
 (refine vg ?_;intro K hK)
 refine wp_loop_rounds 3 ?_
 rw [rounds_succ]
 (revert K;refine vg ?_;intro K hK)
 rw [rounds_succ]
 (revert K;refine vg ?_;intro K hK)
 rw [rounds_succ]
 (revert K;refine vg ?_;intro K hK)
 (refine kX ?_)
 refine ⟨?_,rfl⟩
 rfl
theorem Hv (l:Bs) (c d b:UInt8) (w:World) (hl:3≤l.length) (i0:∀ h,(⟨l.toArray⟩:ByteArray)[0]'h=c) (i1:∀ h,(⟨l.toArray⟩:ByteArray)[1]'h=d) (i2:∀ h,(⟨l.toArray⟩:ByteArray)[2]'h=b) (hc:224≤c.toNat∧c.toNat<240) (bP:d.toNat / 64=2) (dJ:b.toNat / 64=2) (hr:((2048≤(((c.toNat % 16)*64+d.toNat % 64)*64+b.toNat % 64)∧(((c.toNat % 16)*64+d.toNat % 64)*64+b.toNat % 64)<55296)∨57344≤(((c.toNat % 16)*64+d.toNat % 64)*64+b.toNat % 64))) :
  Calls prog 51 #[(.string ⟨l.toArray⟩)] w fun e w'=>e=.returned (.tuple #[.int .i64 ((((c.toNat % 16)*64+d.toNat % 64)*64+b.toNat % 64:Nat):Int),.int .i64 3])∧w=w':=by
 obtain ⟨q0,q1,q2,q3,q4,q5,q6,L6,mB⟩:=Xu hc
 obtain ⟨he,wJ,pH⟩:=L5 hl
 have L7:¬ ((l.length:Int)<3):=by omega
 have iL:1<l.length:=by omega
 have A5:(1:Int)<(l.length:Int):=by omega
 have eA:=fE d bP
 have gK:2<l.length:=by omega
 have y8:(2:Int)<(l.length:Int):=by omega
 have iA:=fE b dJ
 have n7:IntKind.i64.wrap 2=2:=rfl
 have nV:IntKind.i64.wrap 3=3:=rfl
 have AZ:IntKind.i64.wrap 4=4:=rfl
 have BU:=(jH c).2.1
 obtain ⟨r0,e0⟩:∃ r0:Nat,r0=c.toNat % 16:=⟨_,rfl⟩
 rw [←e0] at BU
 have JF:=Lh e0
 have SI:r0<16:=by omega
 clear e0
 have xN:=kR d
 obtain ⟨y1,f1⟩:∃ y:Nat,y=d.toNat % 64:=⟨_,rfl⟩
 rw [←f1] at xN
 have B5:=Lh f1
 have sE:y1<64:=by omega
 clear f1
 obtain ⟨g1a,g1b,g1c⟩:=kT r0 y1 (by omega) sE
 obtain ⟨r1,e1⟩:∃ r:Nat,r=r0*64+y1:=⟨_,rfl⟩
 rw [←e1] at g1c
 have I9:=Lh e1
 have mF:r1<1024:=by omega
 clear e1
 have E4:=kR b
 obtain ⟨y2,f2⟩:∃ y:Nat,y=b.toNat % 64:=⟨_,rfl⟩
 rw [←f2] at E4
 have OP:=Lh f2
 have zQ:y2<64:=by omega
 clear f2
 obtain ⟨g2a,g2b,g2c⟩:=kT r1 y2 (by omega) zQ
 obtain ⟨r2,e2⟩:∃ r:Nat,r=r1*64+y2:=⟨_,rfl⟩
 rw [←e2] at g2c
 have FO:=Lh e2
 have wD:r2<65536:=by omega
 clear e2
 have tH:r2=((c.toNat % 16)*64+d.toNat % 64)*64+b.toNat % 64:=by
  have a0:=JF.out
  have a1:=I9.out
  have b1:=B5.out
  have a2:=FO.out
  have b2:=OP.out
  omega
 rw [←tH] at hr
 have OO:=Lh tH
 clear tH
 rcases hr with hr|hr
 all_goals
  first|have:((r2:Int)<2048):=by omega|have:¬ (((r2:Int)<2048)):=by omega
  first|have:((55296:Int)≤(r2:Int)):=by omega|have:¬ (((55296:Int)≤(r2:Int))):=by omega
  first|have:((r2:Int)<57344):=by omega|have:¬ (((r2:Int)<57344)):=by omega
  first|have:((r2:Int)<65536):=by omega|have:¬ (((r2:Int)<65536)):=by omega
  first|have:((1114111:Int)<(r2:Int)):=by omega|have:¬ (((1114111:Int)<(r2:Int))):=by omega
  refine eJ 92 func51 [_] fun f=>?_
  simp only [aE]
  (refine vg ?_;intro K hK)
  refine wp_loop_rounds 3 ?_
  rw [rounds_succ]
  (revert K;refine vg ?_;intro K hK)
  rw [rounds_succ]
  (revert K;refine vg ?_;intro K hK)
  rw [rounds_succ]
  (revert K;refine vg ?_)
  (refine kX ?_)
  refine ⟨?_,rfl⟩
  rw [←OO.out]
theorem P3 (l:Bs) (c:UInt8) (w:World) (hl:1≤l.length) (hs:l.length<4) (i0:∀ h,(⟨l.toArray⟩:ByteArray)[0]'h=c) (hc:240≤c.toNat∧c.toNat<245) :
  Calls prog 51 #[(.string ⟨l.toArray⟩)] w fun e w'=>e=.returned (.tuple #[.int .i64 0,.int .i64 0])∧w=w':=by
 obtain ⟨q0,q1,q2,q3,q4,q5,q6,L6,mB⟩:=Ry hc
 obtain ⟨he,wJ,pH⟩:=L5 hl
 have L7:(l.length:Int)<4:=by omega
 refine eJ 92 func51 [_] fun f=>?_
 simp only [aE]
 (refine vg ?_;intro K hK)
 (refine kX ?_)
 exact ⟨rfl,rfl⟩
theorem UW (l:Bs) (c d:UInt8) (w:World) (hl:4≤l.length) (i0:∀ h,(⟨l.toArray⟩:ByteArray)[0]'h=c) (i1:∀ h,(⟨l.toArray⟩:ByteArray)[1]'h=d) (hc:240≤c.toNat∧c.toNat<245) (bP:d.toNat / 64≠2) :
  Calls prog 51 #[(.string ⟨l.toArray⟩)] w fun e w'=>e=.returned (.tuple #[.int .i64 0,.int .i64 0])∧w=w':=by
 obtain ⟨q0,q1,q2,q3,q4,q5,q6,L6,mB⟩:=Ry hc
 obtain ⟨he,wJ,pH⟩:=L5 hl
 have L7:¬ ((l.length:Int)<4):=by omega
 have iL:1<l.length:=by omega
 have A5:(1:Int)<(l.length:Int):=by omega
 have eA:=vF d bP
 have n7:IntKind.i64.wrap 2=2:=rfl
 have nV:IntKind.i64.wrap 3=3:=rfl
 have AZ:IntKind.i64.wrap 4=4:=rfl
 have BU:=(jH c).2.2
 obtain ⟨r0,e0⟩:∃ r0:Nat,r0=c.toNat % 8:=⟨_,rfl⟩
 rw [←e0] at BU
 have JF:=Lh e0
 have SI:r0<8:=by omega
 clear e0
 refine eJ 92 func51 [_] fun f=>?_
 simp only [aE]
 (refine vg ?_;intro K hK)
 refine wp_loop_rounds 1 ?_
 rw [rounds_succ]
 (revert K;refine vg ?_;(repeat with_reducible intro K hK))
 (refine kX ?_)
 exact ⟨rfl,rfl⟩
theorem UX (l:Bs) (c d b:UInt8) (w:World) (hl:4≤l.length) (i0:∀ h,(⟨l.toArray⟩:ByteArray)[0]'h=c) (i1:∀ h,(⟨l.toArray⟩:ByteArray)[1]'h=d) (i2:∀ h,(⟨l.toArray⟩:ByteArray)[2]'h=b) (hc:240≤c.toNat∧c.toNat<245) (bP:d.toNat / 64=2) (dJ:b.toNat / 64≠2) :
  Calls prog 51 #[(.string ⟨l.toArray⟩)] w fun e w'=>e=.returned (.tuple #[.int .i64 0,.int .i64 0])∧w=w':=by
 obtain ⟨q0,q1,q2,q3,q4,q5,q6,L6,mB⟩:=Ry hc
 obtain ⟨he,wJ,pH⟩:=L5 hl
 have L7:¬ ((l.length:Int)<4):=by omega
 have iL:1<l.length:=by omega
 have A5:(1:Int)<(l.length:Int):=by omega
 have eA:=fE d bP
 have gK:2<l.length:=by omega
 have y8:(2:Int)<(l.length:Int):=by omega
 have iA:=vF b dJ
 have n7:IntKind.i64.wrap 2=2:=rfl
 have nV:IntKind.i64.wrap 3=3:=rfl
 have AZ:IntKind.i64.wrap 4=4:=rfl
 have BU:=(jH c).2.2
 obtain ⟨r0,e0⟩:∃ r0:Nat,r0=c.toNat % 8:=⟨_,rfl⟩
 rw [←e0] at BU
 have JF:=Lh e0
 have SI:r0<8:=by omega
 clear e0
 have xN:=kR d
 obtain ⟨y1,f1⟩:∃ y:Nat,y=d.toNat % 64:=⟨_,rfl⟩
 rw [←f1] at xN
 have B5:=Lh f1
 have sE:y1<64:=by omega
 clear f1
 obtain ⟨g1a,g1b,g1c⟩:=kT r0 y1 (by omega) sE
 obtain ⟨r1,e1⟩:∃ r:Nat,r=r0*64+y1:=⟨_,rfl⟩
 rw [←e1] at g1c
 have I9:=Lh e1
 have mF:r1<512:=by omega
 clear e1
 refine eJ 92 func51 [_] fun f=>?_
 simp only [aE]
 (refine vg ?_;intro K hK)
 refine wp_loop_rounds 2 ?_
 rw [rounds_succ]
 (revert K;refine vg ?_;intro K hK)
 rw [rounds_succ]
 (revert K;refine vg ?_;(repeat with_reducible intro K hK))
 (refine kX ?_)
 exact ⟨rfl,rfl⟩
theorem UY (l:Bs) (c d b g:UInt8) (w:World) (hl:4≤l.length) (i0:∀ h,(⟨l.toArray⟩:ByteArray)[0]'h=c) (i1:∀ h,(⟨l.toArray⟩:ByteArray)[1]'h=d) (i2:∀ h,(⟨l.toArray⟩:ByteArray)[2]'h=b) (i3:∀ h,(⟨l.toArray⟩:ByteArray)[3]'h=g) (hc:240≤c.toNat∧c.toNat<245) (bP:d.toNat / 64=2) (dJ:b.toNat / 64=2) (l9:g.toNat / 64≠2) :
  Calls prog 51 #[(.string ⟨l.toArray⟩)] w fun e w'=>e=.returned (.tuple #[.int .i64 0,.int .i64 0])∧w=w':=by
 obtain ⟨q0,q1,q2,q3,q4,q5,q6,L6,mB⟩:=Ry hc
 obtain ⟨he,wJ,pH⟩:=L5 hl
 have L7:¬ ((l.length:Int)<4):=by omega
 have iL:1<l.length:=by omega
 have A5:(1:Int)<(l.length:Int):=by omega
 have eA:=fE d bP
 have gK:2<l.length:=by omega
 have y8:(2:Int)<(l.length:Int):=by omega
 have iA:=fE b dJ
 have O8:3<l.length:=by omega
 have hl3:(3:Int)<(l.length:Int):=by omega
 have cD:=vF g l9
 have n7:IntKind.i64.wrap 2=2:=rfl
 have nV:IntKind.i64.wrap 3=3:=rfl
 have AZ:IntKind.i64.wrap 4=4:=rfl
 have BU:=(jH c).2.2
 obtain ⟨r0,e0⟩:∃ r0:Nat,r0=c.toNat % 8:=⟨_,rfl⟩
 rw [←e0] at BU
 have JF:=Lh e0
 have SI:r0<8:=by omega
 clear e0
 have xN:=kR d
 obtain ⟨y1,f1⟩:∃ y:Nat,y=d.toNat % 64:=⟨_,rfl⟩
 rw [←f1] at xN
 have B5:=Lh f1
 have sE:y1<64:=by omega
 clear f1
 obtain ⟨g1a,g1b,g1c⟩:=kT r0 y1 (by omega) sE
 obtain ⟨r1,e1⟩:∃ r:Nat,r=r0*64+y1:=⟨_,rfl⟩
 rw [←e1] at g1c
 have I9:=Lh e1
 have mF:r1<512:=by omega
 clear e1
 have E4:=kR b
 obtain ⟨y2,f2⟩:∃ y:Nat,y=b.toNat % 64:=⟨_,rfl⟩
 rw [←f2] at E4
 have OP:=Lh f2
 have zQ:y2<64:=by omega
 clear f2
 obtain ⟨g2a,g2b,g2c⟩:=kT r1 y2 (by omega) zQ
 obtain ⟨r2,e2⟩:∃ r:Nat,r=r1*64+y2:=⟨_,rfl⟩
 rw [←e2] at g2c
 have FO:=Lh e2
 have wD:r2<32768:=by omega
 clear e2
 refine eJ 92 func51 [_] fun f=>?_
 simp only [aE]
 (refine vg ?_;intro K hK)
 refine wp_loop_rounds 3 ?_
 rw [rounds_succ]
 (revert K;refine vg ?_;intro K hK)
 rw [rounds_succ]
 (revert K;refine vg ?_;intro K hK)
 rw [rounds_succ]
 (revert K;refine vg ?_;(repeat with_reducible intro K hK))
 (refine kX ?_)
 exact ⟨rfl,rfl⟩
theorem UZ (l:Bs) (c d b g:UInt8) (w:World) (hl:4≤l.length) (i0:∀ h,(⟨l.toArray⟩:ByteArray)[0]'h=c) (i1:∀ h,(⟨l.toArray⟩:ByteArray)[1]'h=d) (i2:∀ h,(⟨l.toArray⟩:ByteArray)[2]'h=b) (i3:∀ h,(⟨l.toArray⟩:ByteArray)[3]'h=g) (hc:240≤c.toNat∧c.toNat<245) (bP:d.toNat / 64=2) (dJ:b.toNat / 64=2) (l9:g.toNat / 64=2) (hr:((((c.toNat % 8)*64+d.toNat % 64)*64+b.toNat % 64)*64+g.toNat % 64)<65536) :
  Calls prog 51 #[(.string ⟨l.toArray⟩)] w fun e w'=>e=.returned (.tuple #[.int .i64 0,.int .i64 0])∧w=w':=by
 obtain ⟨q0,q1,q2,q3,q4,q5,q6,L6,mB⟩:=Ry hc
 obtain ⟨he,wJ,pH⟩:=L5 hl
 have L7:¬ ((l.length:Int)<4):=by omega
 have iL:1<l.length:=by omega
 have A5:(1:Int)<(l.length:Int):=by omega
 have eA:=fE d bP
 have gK:2<l.length:=by omega
 have y8:(2:Int)<(l.length:Int):=by omega
 have iA:=fE b dJ
 have O8:3<l.length:=by omega
 have hl3:(3:Int)<(l.length:Int):=by omega
 have cD:=fE g l9
 have n7:IntKind.i64.wrap 2=2:=rfl
 have nV:IntKind.i64.wrap 3=3:=rfl
 have AZ:IntKind.i64.wrap 4=4:=rfl
 have BU:=(jH c).2.2
 obtain ⟨r0,e0⟩:∃ r0:Nat,r0=c.toNat % 8:=⟨_,rfl⟩
 rw [←e0] at BU
 have JF:=Lh e0
 have SI:r0<8:=by omega
 clear e0
 have xN:=kR d
 obtain ⟨y1,f1⟩:∃ y:Nat,y=d.toNat % 64:=⟨_,rfl⟩
 rw [←f1] at xN
 have B5:=Lh f1
 have sE:y1<64:=by omega
 clear f1
 obtain ⟨g1a,g1b,g1c⟩:=kT r0 y1 (by omega) sE
 obtain ⟨r1,e1⟩:∃ r:Nat,r=r0*64+y1:=⟨_,rfl⟩
 rw [←e1] at g1c
 have I9:=Lh e1
 have mF:r1<512:=by omega
 clear e1
 have E4:=kR b
 obtain ⟨y2,f2⟩:∃ y:Nat,y=b.toNat % 64:=⟨_,rfl⟩
 rw [←f2] at E4
 have OP:=Lh f2
 have zQ:y2<64:=by omega
 clear f2
 obtain ⟨g2a,g2b,g2c⟩:=kT r1 y2 (by omega) zQ
 obtain ⟨r2,e2⟩:∃ r:Nat,r=r1*64+y2:=⟨_,rfl⟩
 rw [←e2] at g2c
 have FO:=Lh e2
 have wD:r2<32768:=by omega
 clear e2
 have Nt:=kR g
 obtain ⟨y3,f3⟩:∃ y:Nat,y=g.toNat % 64:=⟨_,rfl⟩
 rw [←f3] at Nt
 have U0:=Lh f3
 have ZK:y3<64:=by omega
 clear f3
 obtain ⟨g3a,g3b,g3c⟩:=kT r2 y3 (by omega) ZK
 obtain ⟨r3,e3⟩:∃ r:Nat,r=r2*64+y3:=⟨_,rfl⟩
 rw [←e3] at g3c
 have Rz:=Lh e3
 have Zg:r3<2097152:=by omega
 clear e3
 have tH:r3=(((c.toNat % 8)*64+d.toNat % 64)*64+b.toNat % 64)*64+g.toNat % 64:=by
  have a0:=JF.out
  have a1:=I9.out
  have b1:=B5.out
  have a2:=FO.out
  have b2:=OP.out
  have a3:=Rz.out
  have b3:=U0.out
  omega
 rw [←tH] at hr
 have OO:=Lh tH
 clear tH
 first|have:((r3:Int)<65536):=by omega|have:¬ (((r3:Int)<65536)):=by omega
 first|have:((1114111:Int)<(r3:Int)):=by omega|have:¬ (((1114111:Int)<(r3:Int))):=by omega
 refine eJ 92 func51 [_] fun f=>?_
 simp only [aE]
 (refine vg ?_;intro K hK)
 refine wp_loop_rounds 4 ?_
 rw [rounds_succ]
 (revert K;refine vg ?_;intro K hK)
 rw [rounds_succ]
 (revert K;refine vg ?_;intro K hK)
 rw [rounds_succ]
 (revert K;refine vg ?_;intro K hK)
 rw [rounds_succ]
 (revert K;refine vg ?_;intro K hK)
 (refine kX ?_)
 refine ⟨?_,rfl⟩
 rfl
theorem P4 (l:Bs) (c d b g:UInt8) (w:World) (hl:4≤l.length) (i0:∀ h,(⟨l.toArray⟩:ByteArray)[0]'h=c) (i1:∀ h,(⟨l.toArray⟩:ByteArray)[1]'h=d) (i2:∀ h,(⟨l.toArray⟩:ByteArray)[2]'h=b) (i3:∀ h,(⟨l.toArray⟩:ByteArray)[3]'h=g) (hc:240≤c.toNat∧c.toNat<245) (bP:d.toNat / 64=2) (dJ:b.toNat / 64=2) (l9:g.toNat / 64=2) (hr:1114111<((((c.toNat % 8)*64+d.toNat % 64)*64+b.toNat % 64)*64+g.toNat % 64)) :
  Calls prog 51 #[(.string ⟨l.toArray⟩)] w fun e w'=>e=.returned (.tuple #[.int .i64 0,.int .i64 0])∧w=w':=by
 obtain ⟨q0,q1,q2,q3,q4,q5,q6,L6,mB⟩:=Ry hc
 obtain ⟨he,wJ,pH⟩:=L5 hl
 have L7:¬ ((l.length:Int)<4):=by omega
 have iL:1<l.length:=by omega
 have A5:(1:Int)<(l.length:Int):=by omega
 have eA:=fE d bP
 have gK:2<l.length:=by omega
 have y8:(2:Int)<(l.length:Int):=by omega
 have iA:=fE b dJ
 have O8:3<l.length:=by omega
 have hl3:(3:Int)<(l.length:Int):=by omega
 have cD:=fE g l9
 have n7:IntKind.i64.wrap 2=2:=rfl
 have nV:IntKind.i64.wrap 3=3:=rfl
 have AZ:IntKind.i64.wrap 4=4:=rfl
 have BU:=(jH c).2.2
 obtain ⟨r0,e0⟩:∃ r0:Nat,r0=c.toNat % 8:=⟨_,rfl⟩
 rw [←e0] at BU
 have JF:=Lh e0
 have SI:r0<8:=by omega
 clear e0
 have xN:=kR d
 obtain ⟨y1,f1⟩:∃ y:Nat,y=d.toNat % 64:=⟨_,rfl⟩
 rw [←f1] at xN
 have B5:=Lh f1
 have sE:y1<64:=by omega
 clear f1
 obtain ⟨g1a,g1b,g1c⟩:=kT r0 y1 (by omega) sE
 obtain ⟨r1,e1⟩:∃ r:Nat,r=r0*64+y1:=⟨_,rfl⟩
 rw [←e1] at g1c
 have I9:=Lh e1
 have mF:r1<512:=by omega
 clear e1
 have E4:=kR b
 obtain ⟨y2,f2⟩:∃ y:Nat,y=b.toNat % 64:=⟨_,rfl⟩
 rw [←f2] at E4
 have OP:=Lh f2
 have zQ:y2<64:=by omega
 clear f2
 obtain ⟨g2a,g2b,g2c⟩:=kT r1 y2 (by omega) zQ
 obtain ⟨r2,e2⟩:∃ r:Nat,r=r1*64+y2:=⟨_,rfl⟩
 rw [←e2] at g2c
 have FO:=Lh e2
 have wD:r2<32768:=by omega
 clear e2
 have Nt:=kR g
 obtain ⟨y3,f3⟩:∃ y:Nat,y=g.toNat % 64:=⟨_,rfl⟩
 rw [←f3] at Nt
 have U0:=Lh f3
 have ZK:y3<64:=by omega
 clear f3
 obtain ⟨g3a,g3b,g3c⟩:=kT r2 y3 (by omega) ZK
 obtain ⟨r3,e3⟩:∃ r:Nat,r=r2*64+y3:=⟨_,rfl⟩
 rw [←e3] at g3c
 have Rz:=Lh e3
 have Zg:r3<2097152:=by omega
 clear e3
 have tH:r3=(((c.toNat % 8)*64+d.toNat % 64)*64+b.toNat % 64)*64+g.toNat % 64:=by
  have a0:=JF.out
  have a1:=I9.out
  have b1:=B5.out
  have a2:=FO.out
  have b2:=OP.out
  have a3:=Rz.out
  have b3:=U0.out
  omega
 rw [←tH] at hr
 have OO:=Lh tH
 clear tH
 first|have:((r3:Int)<65536):=by omega|have:¬ (((r3:Int)<65536)):=by omega
 first|have:((1114111:Int)<(r3:Int)):=by omega|have:¬ (((1114111:Int)<(r3:Int))):=by omega
 refine eJ 92 func51 [_] fun f=>?_
 simp only [aE]
 (refine vg ?_;intro K hK)
 refine wp_loop_rounds 4 ?_
 rw [rounds_succ]
 (revert K;refine vg ?_;intro K hK)
 rw [rounds_succ]
 (revert K;refine vg ?_;intro K hK)
 rw [rounds_succ]
 (revert K;refine vg ?_;intro K hK)
 rw [rounds_succ]
 (revert K;refine vg ?_;intro K hK)
 (refine kX ?_)
 refine ⟨?_,rfl⟩
 rfl
theorem Hw (l:Bs) (c d b g:UInt8) (w:World) (hl:4≤l.length) (i0:∀ h,(⟨l.toArray⟩:ByteArray)[0]'h=c) (i1:∀ h,(⟨l.toArray⟩:ByteArray)[1]'h=d) (i2:∀ h,(⟨l.toArray⟩:ByteArray)[2]'h=b) (i3:∀ h,(⟨l.toArray⟩:ByteArray)[3]'h=g) (hc:240≤c.toNat∧c.toNat<245) (bP:d.toNat / 64=2) (dJ:b.toNat / 64=2) (l9:g.toNat / 64=2) (hr:(65536≤((((c.toNat % 8)*64+d.toNat % 64)*64+b.toNat % 64)*64+g.toNat % 64)∧((((c.toNat % 8)*64+d.toNat % 64)*64+b.toNat % 64)*64+g.toNat % 64)≤1114111)) :
  Calls prog 51 #[(.string ⟨l.toArray⟩)] w fun e w'=>e=.returned (.tuple #[.int .i64 (((((c.toNat % 8)*64+d.toNat % 64)*64+b.toNat % 64)*64+g.toNat % 64:Nat):Int),.int .i64 4])∧w=w':=by
 obtain ⟨q0,q1,q2,q3,q4,q5,q6,L6,mB⟩:=Ry hc
 obtain ⟨he,wJ,pH⟩:=L5 hl
 have L7:¬ ((l.length:Int)<4):=by omega
 have iL:1<l.length:=by omega
 have A5:(1:Int)<(l.length:Int):=by omega
 have eA:=fE d bP
 have gK:2<l.length:=by omega
 have y8:(2:Int)<(l.length:Int):=by omega
 have iA:=fE b dJ
 have O8:3<l.length:=by omega
 have hl3:(3:Int)<(l.length:Int):=by omega
 have cD:=fE g l9
 have n7:IntKind.i64.wrap 2=2:=rfl
 have nV:IntKind.i64.wrap 3=3:=rfl
 have AZ:IntKind.i64.wrap 4=4:=rfl
 have BU:=(jH c).2.2
 obtain ⟨r0,e0⟩:∃ r0:Nat,r0=c.toNat % 8:=⟨_,rfl⟩
 rw [←e0] at BU
 have JF:=Lh e0
 have SI:r0<8:=by omega
 clear e0
 have xN:=kR d
 obtain ⟨y1,f1⟩:∃ y:Nat,y=d.toNat % 64:=⟨_,rfl⟩
 rw [←f1] at xN
 have B5:=Lh f1
 have sE:y1<64:=by omega
 clear f1
 obtain ⟨g1a,g1b,g1c⟩:=kT r0 y1 (by omega) sE
 obtain ⟨r1,e1⟩:∃ r:Nat,r=r0*64+y1:=⟨_,rfl⟩
 rw [←e1] at g1c
 have I9:=Lh e1
 have mF:r1<512:=by omega
 clear e1
 have E4:=kR b
 obtain ⟨y2,f2⟩:∃ y:Nat,y=b.toNat % 64:=⟨_,rfl⟩
 rw [←f2] at E4
 have OP:=Lh f2
 have zQ:y2<64:=by omega
 clear f2
 obtain ⟨g2a,g2b,g2c⟩:=kT r1 y2 (by omega) zQ
 obtain ⟨r2,e2⟩:∃ r:Nat,r=r1*64+y2:=⟨_,rfl⟩
 rw [←e2] at g2c
 have FO:=Lh e2
 have wD:r2<32768:=by omega
 clear e2
 have Nt:=kR g
 obtain ⟨y3,f3⟩:∃ y:Nat,y=g.toNat % 64:=⟨_,rfl⟩
 rw [←f3] at Nt
 have U0:=Lh f3
 have ZK:y3<64:=by omega
 clear f3
 obtain ⟨g3a,g3b,g3c⟩:=kT r2 y3 (by omega) ZK
 obtain ⟨r3,e3⟩:∃ r:Nat,r=r2*64+y3:=⟨_,rfl⟩
 rw [←e3] at g3c
 have Rz:=Lh e3
 have Zg:r3<2097152:=by omega
 clear e3
 have tH:r3=(((c.toNat % 8)*64+d.toNat % 64)*64+b.toNat % 64)*64+g.toNat % 64:=by
  have a0:=JF.out
  have a1:=I9.out
  have b1:=B5.out
  have a2:=FO.out
  have b2:=OP.out
  have a3:=Rz.out
  have b3:=U0.out
  omega
 rw [←tH] at hr
 have OO:=Lh tH
 clear tH
 first|have:((r3:Int)<65536):=by omega|have:¬ (((r3:Int)<65536)):=by omega
 first|have:((1114111:Int)<(r3:Int)):=by omega|have:¬ (((1114111:Int)<(r3:Int))):=by omega
 refine eJ 92 func51 [_] fun f=>?_
 simp only [aE]
 (refine vg ?_;intro K hK)
 refine wp_loop_rounds 4 ?_
 rw [rounds_succ]
 (revert K;refine vg ?_;intro K hK)
 rw [rounds_succ]
 (revert K;refine vg ?_;intro K hK)
 rw [rounds_succ]
 (revert K;refine vg ?_;intro K hK)
 rw [rounds_succ]
 (revert K;refine vg ?_)
 (refine kX ?_)
 refine ⟨?_,rfl⟩
 rw [←OO.out]
end Go.Proofs.YtdjdjbpnbjdaaaaGreatDoor
