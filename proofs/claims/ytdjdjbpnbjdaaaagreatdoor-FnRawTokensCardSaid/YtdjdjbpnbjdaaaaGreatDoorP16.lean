/- Part of the proof that laws.FnRawTokens returns true for every argument. No conditions. -/
import Derived.Test.YtdjdjbpnbjdaaaaGreatDoorP14
import Derived.Test.YtdjdjbpnbjdaaaaGreatDoorP15
import Derived.Lib.OthersKept
import Derived.Lib.TrimAscii
import Derived.Test.YtdjdjbpnbjdaaaaGreatDoorP08
set_option linter.all false
set_option maxHeartbeats 8000000
set_option maxRecDepth 100000
namespace Go.Proofs.YtdjdjbpnbjdaaaaGreatDoor
open Go Go.RowKit Tryz
def Ye:List Int:=(List.range 128).map fun (c:Nat)=>if 65≤c∧c≤90 then (c:Int)+32 else if c=107 then 8490 else if c=115 then 383 else if 97≤c∧c≤122 then (c:Int)-32 else c
structure lQ (w:World):Prop where
 at':∀ i,i<128→w.cell? ⟨3,i,none⟩=some (.int .u16 (Ye.getD i 0))
 lt:3<w.heap.size
theorem lQ.below {w w':World} (h:lQ w) (hb:Below w.heap.size w w'):lQ w':=
 ⟨fun i hi=>by rw [hb.cell (p:=⟨_,i,none⟩) h.lt];exact h.at' i hi,Nat.lt_of_lt_of_le h.lt hb.size⟩
theorem lQ.drewN {w:World} (h:lQ w) (k:Nat):lQ (w.drewN k):=⟨h.at',h.lt⟩
theorem fA (n:Nat) (hn:n<128) (m:Nat) (hm:Ye.getD n 0=m) (iA:m≤10000) (w:World) (h:lQ w) :
  Calls prog 102 #[.int .i32 n] w fun e w'=>e=.returned (.int .i32 m)∧∃ k,w'=w.drewN k:=by
 have hc:=h.at' n hn
 rw [hm] at hc
 have h1:(n:Int)<128:=by omega
 have h2:¬ ((n:Int)<0):=by omega
 have h0:(0:Int)≤(n:Int):=by omega
 have h3:¬ ((1114111:Int)<(n:Int)):=by omega
 have h4:IntKind.i64.wrap (n:Int)=(n:Int):=by rw [IntKind.wrap_i64];omega
 have h5:IntKind.i32.wrap (m:Int)=(m:Int):=by rw [IntKind.wrap_i32];omega
 clear h hm
 refine eJ 80 func102 [_] fun f=>?_
 simp only [aE]
 (refine vg ?_;intro K hK)
 (refine cW ?_)
 exact ⟨rfl,0,rfl⟩
abbrev eS:Bs:=[117,116,102,45,56]
theorem ML:∀ n,n<256→∀ y∈eS,Lib.foldEq (UInt8.ofNat n) y=(eH (UInt8.ofNat n)==y):=by decide +kernel
theorem JK (x y:UInt8) (hy:y∈eS):Lib.foldEq x y=(eH x==y):=by
 have:=ML x.toNat x.toNat_lt y hy
 simpa using this
theorem wN:∀ (s t:Bs),(∀ y∈t,y∈eS)→Lib.equalFold s t=(s.map eH==t)
 | [],[],_=>rfl
 | [],_::_,_=>by rw [Lib.equalFold_end _ _ (Or.inl rfl)];simp
 | _::_,[],_=>by rw [Lib.equalFold_end _ _ (Or.inr rfl)];simp
 | x::s,y::t,h=>by
  have h1:=JK x y (h y (by simp))
  have h2:=wN s t (fun z hz=>h z (by simp [hz]))
  cases hf:Lib.foldEq x y with
  | true=>
   rw [Lib.equalFold_yes _ _ _ _ hf,h2]
   rw [hf] at h1
   have:eH x=y:=by simpa using h1.symm
   simp [this]
  | false=>
   rw [Lib.equalFold_no _ _ _ _ hf]
   rw [hf] at h1
   have:eH x≠y:=by simpa using h1.symm
   simp [this]
theorem a0j:∀ n,n<256→∀ m∈[117,116,102,45,56],decide ((128:Int)≤bits .or .u8 ((n:Nat):Int) ((m:Nat):Int))=decide (128≤n):=by decide +kernel
theorem Sr (c d:UInt8) (hd:d∈eS):decide ((128:Int)≤bits .or .u8 (c.toNat:Int) (d.toNat:Int))=decide (128≤c.toNat):=by
 refine a0j c.toNat c.toNat_lt d.toNat ?_
 simp only [eS,List.mem_cons,List.not_mem_nil,or_false] at hd
 rcases hd with rfl|rfl|rfl|rfl|rfl<;>decide
theorem ZY {P:Program} {c:Code} {Q:Exit→Act→World→Prop} {a:Act} {w:World} (h:(Code.scope c).wp P Q a w):(Code.scope c).wp P Q a w:=h
noncomputable def ZZ (n:Nat):Code:=((Tryz.f68.body).bind (Code.partAt n)).getD .skip
def a0k (s:Bs) (N:Nat) (w0:World) (k:Nat) (a:Act) (w:World):Prop:=
 ∃ f i,a=fr 123 f [(0,aB s),(1,aB eS),(5,.int .i64 (i:Nat)),(6,.int .i64 N)]∧w0=w∧i≤N∧k=N-i∧∀ j,j<i→(s.getD j 0).toNat<128
def EfJ (s:Bs) (w0:World) (k:Nat) (a:Act) (w:World):Prop:=
 k=0∧∃ f i,a=fr 123 f [(0,aB s),(1,aB eS),(5,.int .i64 (i:Nat))]∧w0=w∧i<s.length∧i<5∧128≤(s.getD i 0).toNat
theorem JL (s:Bs) (hs:s.length≤1000000000) (j0:Nat) (hj0:j0<s.length) (Zh:128≤(s.getD j0 0).toNat) (w:World) (B8:lQ w) (hu:Lib.Utf8Tabs 6 7 w) :
  Calls prog 68 #[aB s,aB eS] w fun e w'=>e=.returned (.bool false)∧Below w.heap.size w w':=by
 have Fi:=Lh B8
 have HU:=Lh hu
 have HHI:=Lh Zh
 have HJ0:=Lh hj0
 have HS:=Lh hs
 obtain ⟨N,hN⟩:∃ N:Nat,min (s.length:Int) 5=(N:Int):=⟨min s.length 5,by omega⟩
 have HN:=Lh hN
 clear B8 hu Zh hj0 hs
 refine eJ 123 func68 [_,_] fun f=>?_
 simp only [aE]
 (repeat ((fail_if_success with_reducible refine ZY ?_);(first|(with_reducible first|refine zA fun K hK=>?_|refine zB ?_|refine zC ?_)|((with_reducible first|refine zD rfl fun K hK=>?_|refine zE fun K hK=>?_);go_simp)|(with_reducible first|((repeat ((fail_if_success refine hK _ _ ?_);clear hK K));refine hK _ _ ?_;clear hK K)|refine zt ?_|refine zf ?_|refine zG ?_|refine zR ?_|refine zK ?_|refine zL ?_|refine zN ?_|refine zS ?_)|simp only [Exit.then,Exit.inBlock,Exit.noGoto,↓reduceIte,Nat.reduceEqDiff]|simp only [undef,reduceCtorEq,↓reduceIte])))
 (refine cJ [0,1] fun f=>?_)
 refine qW (rest:=.seq .skip (ZZ 14)) 0 (EfJ s w) (by kernel_rfl) ?_ ?_
 ·(refine vg ?_;intro K hK)
  (refine cJ [0,1,5,6] fun f=>?_)
  refine wp_loop_ghost_k (a0k s N w) N ⟨f,0,rfl,rfl,Nat.zero_le _,rfl,fun j hj=>by omega⟩ ?_
  rintro k _ w6 ⟨f,i,rfl,hww,hi,hk,BQ⟩ J K2 hJ cY
  subst hww
  have HJ:=Lh hJ
  have dN:=Lh cY
  have HK:=Lh hk
  have BX:=Lh BQ
  clear hJ cY hk BQ
  by_cases bB:i<N
  ·have hN5:N≤5∧N≤s.length:=by have:=HN.out;omega
   obtain ⟨hN5,hNs⟩:=hN5
   have h1:(i:Int)<(N:Int):=by omega
   have h0:(0:Int)≤(i:Int):=by omega
   have h2:(i:Int)<(s.length:Int):=by omega
   have h3:(i:Int)<5:=by omega
   have h3':i<5:=by omega
   have Rv:i<s.length:=by omega
   have qF:IntKind.i64.wrap ((i:Int)+1)=((i+1:Nat):Int):=by rw [IntKind.wrap_i64];omega
   obtain ⟨c,hc⟩:∃ c,c=s.getD i 0:=⟨_,rfl⟩
   obtain ⟨d,hd⟩:∃ d,d=eS.getD i 0:=⟨_,rfl⟩
   have Yd:∀ h,(⟨s.toArray⟩:ByteArray)[i]'h=c:=by intro h;rw [hc];exact Yc s i h
   have hiy:∀ h,(⟨eS.toArray⟩:ByteArray)[i]'h=d:=by intro h;rw [hd];exact Yc eS i h
   have W3:d∈eS:=by rw [hd];rw [List.getD_eq_getElem?_getD,List.getElem?_eq_getElem (show i<eS.length from h3')];exact List.getElem_mem _
   have QI:=Sr c d W3
   have HC:=Lh hc
   have HDM:=Lh W3
   by_cases Ir:128≤c.toNat
   ·have a0l:decide ((128:Int)≤bits .or .u8 (c.toNat:Int) (d.toNat:Int))=true:=by rw [QI];simpa using Ir
    have HC8:=Lh Ir
    clear QI hd W3 Ir hc
    (revert K;refine vg ?_;(repeat with_reducible intro K hK))
    refine wp_goto ?_
    (try simp only [Exit.then,Exit.inBlock])
    refine Qk [0,1,5] fun f=>?_
    exact ⟨rfl,0,rfl,f,i,rfl,rfl,Rv,h3',by rw [←HC.out];exact HC8.out⟩
   ·have a0l:decide ((128:Int)≤bits .or .u8 (c.toNat:Int) (d.toNat:Int))=false:=by rw [QI];simpa using Ir
    have a5a:¬ ((128:Int)≤bits .or .u8 (c.toNat:Int) (d.toNat:Int)):=by simpa using a0l
    have HC8:=Lh Ir
    have hd8:d.toNat<128:=by
     have:∀ z∈eS,z.toNat<128:=by decide
     exact this d W3
    clear QI hd W3 hc
    by_cases CZ:d=c
    ·subst CZ
     clear Ir
     (revert K;refine vg ?_;intro K hK)
     (refine Kk [0,1,5,6] fun f=>?_)
     refine dN.out _ _ ⟨N-(i+1),by rw [HK.out];omega,HJ.out _ _ _ ⟨f,i+1,rfl,rfl,bB,rfl,fun j hj=>?_⟩⟩
     by_cases tF:j=i
     ·subst tF;rw [←HC.out];have:=HC8.out;omega
     ·exact BX.out j (by omega)
    ·have t1:((d.toNat:Int)==(c.toNat:Int))=false:=eU CZ rfl
     have t2:((c.toNat:Int)==(d.toNat:Int))=false:=eU (fun h=>CZ h.symm) rfl
     by_cases MM:Lib.foldEq c d=true
     ·
      have yY:(65≤c.toNat∧c.toNat≤90∧d.toNat=c.toNat+32)∨(65≤d.toNat∧d.toNat≤90∧c.toNat=d.toNat+32):=by
       have h:=of_decide_eq_true MM
       rcases h with h|h|h
       ·exact absurd (UInt8.toNat_inj.1 h.symm) CZ
       ·exact Or.inl h
       ·exact Or.inr h
      rcases yY with ⟨a1,a2,a3⟩|⟨a1,a2,a3⟩
      ·have b1:¬ ((d.toNat:Int)<(c.toNat:Int)):=by omega
       have b2:(65:Int)≤(c.toNat:Int):=by omega
       have b3:(c.toNat:Int)≤90:=by omega
       have b4:IntKind.u8.wrap ((c.toNat:Int)+97)=(c.toNat:Int)+97:=by rw [IntKind.wrap_u8];omega
       have b5:IntKind.u8.wrap ((c.toNat:Int)+97-65)=(d.toNat:Int):=by rw [IntKind.wrap_u8];omega
       clear Ir CZ MM a1 a2 a3
       (revert K;refine vg ?_;intro K hK)
       (refine Kk [0,1,5,6] fun f=>?_)
       refine dN.out _ _ ⟨N-(i+1),by rw [HK.out];omega,HJ.out _ _ _ ⟨f,i+1,rfl,rfl,bB,rfl,fun j hj=>?_⟩⟩
       by_cases tF:j=i
       ·subst tF;rw [←HC.out];have:=HC8.out;omega
       ·exact BX.out j (by omega)
      ·exfalso
       have h9:∀ z∈eS,¬ (65≤z.toNat∧z.toNat≤90):=by decide
       exact h9 d HDM.out ⟨a1,a2⟩
     ·have KP:¬ (65≤c.toNat∧c.toNat≤90∧d.toNat=c.toNat+32):=fun h=>MM (decide_eq_true (Or.inr (Or.inl h)))
      have hdu:¬ (65≤d.toNat∧d.toNat≤90):=by
       have h9:∀ z∈eS,¬ (65≤z.toNat∧z.toNat≤90):=by decide
       exact h9 d HDM.out
      have cB:c.toNat≠d.toNat:=fun h=>CZ (UInt8.toNat_inj.1 h.symm)
      have vO:((c.toNat:Int)<(d.toNat:Int)∧¬ ((d.toNat:Int)<(c.toNat:Int))∧¬ ((65:Int)≤(c.toNat:Int))) ∨
        ((c.toNat:Int)<(d.toNat:Int)∧¬ ((d.toNat:Int)<(c.toNat:Int))∧(65:Int)≤(c.toNat:Int)∧¬ ((c.toNat:Int)≤90)) ∨
        ((c.toNat:Int)<(d.toNat:Int)∧¬ ((d.toNat:Int)<(c.toNat:Int))∧(65:Int)≤(c.toNat:Int)∧(c.toNat:Int)≤90) ∨
        ((d.toNat:Int)<(c.toNat:Int)∧¬ ((65:Int)≤(d.toNat:Int)))∨((d.toNat:Int)<(c.toNat:Int)∧(65:Int)≤(d.toNat:Int)∧¬ ((d.toNat:Int)≤90)):=by omega
      rcases vO with ⟨b1,b2,b3⟩|⟨b1,b2,b3,b4⟩|⟨b1,b2,b3,b4⟩|⟨b1,b2⟩|⟨b1,b2,b3⟩
      case inr.inr.inl=>
       have b5:IntKind.u8.wrap ((c.toNat:Int)+97)=(c.toNat:Int)+97:=by rw [IntKind.wrap_u8];omega
       have b6:IntKind.u8.wrap ((c.toNat:Int)+97-65)=(c.toNat:Int)+32:=by rw [IntKind.wrap_u8];omega
       have b7:((d.toNat:Int)==(c.toNat:Int)+32)=false:=by rw [beq_eq_false_iff_ne];intro h;exact KP ⟨by omega,by omega,by omega⟩
       clear Ir CZ MM KP hdu cB
       (revert K;refine vg ?_;(repeat with_reducible intro K hK))
       (try simp only [Exit.jump])
       (refine cW ?_)
       exact ⟨rfl,Below.refl _ _⟩
      all_goals
       clear Ir CZ MM KP hdu cB
       (revert K;refine vg ?_;(repeat with_reducible intro K hK))
       (try simp only [Exit.jump])
       (refine cW ?_)
       exact ⟨rfl,Below.refl _ _⟩
  ·have hNN:i=N:=by omega
   subst hNN
   have h1:¬ ((i:Int)<(i:Int)):=by omega
   have bF:((s.length:Int)==5)=false:=by
    rw [beq_eq_false_iff_ne]
    intro h5
    have h2:=HN.out
    have h3:=BX.out j0 (by have:=HJ0.out;omega)
    have:=HHI.out
    omega
   (revert K;refine vg ?_;intro K hK)
   (try simp only [Exit.jump])
   (refine cW ?_)
   exact ⟨rfl,Below.refl _ _⟩
 ·rintro k _ w6 ⟨rfl,f,i,rfl,hww,hi,hi5,hc⟩
  subst hww
  have h0:(0:Int)≤(i:Int):=by omega
  have h1:(i:Int)≤(s.length:Int):=by omega
  have h2:(i:Int)≤5:=by omega
  have x9:=tY s i
  have MI:(⟨eS.toArray⟩:ByteArray).extract i 5=⟨(eS.drop i).toArray⟩:=tY eS i
  obtain ⟨c,Yf⟩:∃ c,c=s.getD i 0:=⟨_,rfl⟩
  obtain ⟨d,OY⟩:∃ d,d=eS.getD i 0:=⟨_,rfl⟩
  have hsd:s.drop i=c::s.drop (i+1):=by rw [Yf,List.drop_eq_getElem_cons hi];simp [hi]
  have hud:eS.drop i=d::eS.drop (i+1):=by
   rw [OY]
   have:i=0∨i=1∨i=2∨i=3∨i=4:=by omega
   rcases this with rfl|rfl|rfl|rfl|rfl<;>rfl
  rw [←Yf] at hc
  have W3:d∈eS:=by
   have:d∈eS.drop i:=by rw [hud];simp
   exact List.mem_of_mem_drop this
  rw [hsd] at x9
  rw [hud] at MI
  obtain ⟨S,hS⟩:∃ S,S=c::s.drop (i+1):=⟨_,rfl⟩
  obtain ⟨U,hU⟩:∃ U,U=d::eS.drop (i+1):=⟨_,rfl⟩
  rw [←hS] at x9
  rw [←hU] at MI
  have qF:(w.iter ⟨S.toArray⟩ 0).heap[w.heap.size]?=some (.stringIter ⟨S.toArray⟩ 0):=World.iter_heap _ _ _
  have U9:=Lib.run_next_any_at (P:=prog) (w.iter ⟨S.toArray⟩ 0) w.heap.size ⟨S.toArray⟩ 0 0 qF (by rw [hS];simp [ByteArray.size])
  have R9:128≤(Utf8.decode ⟨S.toArray⟩ 0).1∧(Utf8.decode ⟨S.toArray⟩ 0).1≤1114111:=by
   have hg:((⟨S.toArray⟩:ByteArray).get! 0).toNat=c.toNat:=by rw [hS];rfl
   rw [Lib.decode_at,hg]
   unfold Lib.decodeN
   rw [if_neg (by omega)]
   repeat' split
   all_goals (simp only [];omega)
  obtain ⟨R,hR⟩:∃ R,R=(Utf8.decode ⟨S.toArray⟩ 0).1:=⟨_,rfl⟩
  rw [←hR] at U9 R9
  have E2:Lib.decodeGo ⟨U.toArray⟩=(d.toNat,1):=by
   have hd8:d.toNat<128:=by
    have h9:∀ z∈eS,z.toNat<128:=by decide
    exact h9 d W3
   have h8:=Lib.decodeL_ascii d (eS.drop (i+1)) hd8
   rw [hU]
   exact h8
  have QJ:Below w.heap.size w ((w.iter ⟨S.toArray⟩ 0).iterAt w.heap.size ⟨S.toArray⟩ (0+(Utf8.decode ⟨S.toArray⟩ 0).2)):=by
   have h1:Below w.heap.size w (w.iter ⟨S.toArray⟩ 0):=(Below.refl _ w).alloc (Nat.le_refl _) _
   exact ⟨h1.os,h1.tape,h1.output,by simp [World.iterAt,World.iter],fun k hk=>by
    rw [←h1.block k hk]
    simp only [World.iterAt]
    first
     | (rw [Array.getElem?_setIfInBounds];rw [if_neg (by omega)])
     | (rw [Array.getElem?_modify];rw [if_neg (by omega)])⟩
  obtain ⟨w2,n7⟩:∃ w2,w2=(w.iter ⟨S.toArray⟩ 0).iterAt w.heap.size ⟨S.toArray⟩ (0+(Utf8.decode ⟨S.toArray⟩ 0).2):=⟨_,rfl⟩
  rw [←n7] at U9 QJ
  have dR:=Lh (Tryz.utf8_DecodeRuneInString ⟨U.toArray⟩ w2 (Utf8Tabs_below HU.out QJ))
  rw [E2] at dR
  have HBE:=Lh QJ
  have HDM:=Lh W3
  have hul:((U.length:Int)==0)=false:=by rw [hU];simp;omega
  have a5b:(1:Int)≤(U.length:Int):=by rw [hU];simp;omega
  have mF:(128:Int)≤(R:Int):=by omega
  have wD:¬ ((R:Int)<128):=by omega
  clear qF QJ E2 n7 hR hS hU hsd hud Yf OY W3 R9
  unfold ZZ
  conv=>arg 2;arg 2;whnf
  (refine vg ?_;intro K hK)
  refine wp_loop_once ?_
  (revert K;refine vg ?_;(repeat with_reducible intro K hK))
  refine dR.out.mono ?_
  rintro e3 w3 ⟨rfl,l9⟩
  have lJ:=Lh (HBE.out.trans (l9.mono HBE.out.size))
  have MN:=Lh ((Fi.out.below HBE.out).below l9)
  have W3:=HDM.out
  clear l9 dR
  simp only [eS,List.mem_cons,List.not_mem_nil,or_false] at W3
  rcases W3 with rfl|rfl|rfl|rfl|rfl
  case inr.inr.inr.inl=>
   have r1:((45:Int)==(R:Int))=false:=by rw [beq_eq_false_iff_ne];omega
   have r2:(45:Int)<(R:Int):=by omega
   have MO:=Lh (fA 45 (by decide) 45 (by decide +kernel) (by decide) w3 MN.out)
   ((repeat revert K);refine vS ?_;(repeat with_reducible intro K hK))
   refine MO.out.mono ?_
   rintro e4 w4 ⟨rfl,k4,rfl⟩
   clear MO
   ((repeat revert K);refine vS ?_;(repeat with_reducible intro K hK))
   refine wp_loop_once ?_
   ((repeat revert K);refine vg ?_;intro K hK)
   (try simp only [Exit.jump])
   (refine cW ?_)
   exact ⟨rfl,cA lJ.out _⟩
  case inr.inr.inr.inr=>
   have r1:((56:Int)==(R:Int))=false:=by rw [beq_eq_false_iff_ne];omega
   have r2:(56:Int)<(R:Int):=by omega
   have MO:=Lh (fA 56 (by decide) 56 (by decide +kernel) (by decide) w3 MN.out)
   ((repeat revert K);refine vS ?_;(repeat with_reducible intro K hK))
   refine MO.out.mono ?_
   rintro e4 w4 ⟨rfl,k4,rfl⟩
   clear MO
   ((repeat revert K);refine vS ?_;(repeat with_reducible intro K hK))
   refine wp_loop_once ?_
   ((repeat revert K);refine vg ?_;intro K hK)
   (try simp only [Exit.jump])
   (refine cW ?_)
   exact ⟨rfl,cA lJ.out _⟩
  case inl=>
   have r1:((117:Int)==(R:Int))=false:=by rw [beq_eq_false_iff_ne];omega
   have r2:(117:Int)<(R:Int):=by omega
   have r3:(85:Int)<(R:Int):=by omega
   have MO:=Lh (fA 117 (by decide) 85 (by decide +kernel) (by decide) w3 MN.out)
   ((repeat revert K);refine vS ?_;(repeat with_reducible intro K hK))
   refine MO.out.mono ?_
   rintro e4 w4 ⟨rfl,k4,rfl⟩
   have MO:=Lh (fA 85 (by decide) 117 (by decide +kernel) (by decide) (w3.drewN k4) (MN.out.drewN k4))
   ((repeat revert K);refine vS ?_;(repeat with_reducible intro K hK))
   refine wp_loop_rounds 2 ?_
   rw [rounds_succ]
   ((repeat revert K);refine vg ?_;(repeat with_reducible intro K hK))
   refine MO.out.mono ?_
   rintro e5 w5 ⟨rfl,k5,rfl⟩
   ((repeat revert K);refine vS ?_;(repeat with_reducible intro K hK))
   rw [rounds_succ]
   ((repeat revert K);refine vg ?_;intro K hK)
   (try simp only [Exit.jump])
   (refine cW ?_)
   exact ⟨rfl,cA lJ.out _⟩
  case inr.inl=>
   have r1:((116:Int)==(R:Int))=false:=by rw [beq_eq_false_iff_ne];omega
   have r2:(116:Int)<(R:Int):=by omega
   have r3:(84:Int)<(R:Int):=by omega
   have MO:=Lh (fA 116 (by decide) 84 (by decide +kernel) (by decide) w3 MN.out)
   ((repeat revert K);refine vS ?_;(repeat with_reducible intro K hK))
   refine MO.out.mono ?_
   rintro e4 w4 ⟨rfl,k4,rfl⟩
   have MO:=Lh (fA 84 (by decide) 116 (by decide +kernel) (by decide) (w3.drewN k4) (MN.out.drewN k4))
   ((repeat revert K);refine vS ?_;(repeat with_reducible intro K hK))
   refine wp_loop_rounds 2 ?_
   rw [rounds_succ]
   ((repeat revert K);refine vg ?_;(repeat with_reducible intro K hK))
   refine MO.out.mono ?_
   rintro e5 w5 ⟨rfl,k5,rfl⟩
   ((repeat revert K);refine vS ?_;(repeat with_reducible intro K hK))
   rw [rounds_succ]
   ((repeat revert K);refine vg ?_;intro K hK)
   (try simp only [Exit.jump])
   (refine cW ?_)
   exact ⟨rfl,cA lJ.out _⟩
  case inr.inr.inl=>
   have r1:((102:Int)==(R:Int))=false:=by rw [beq_eq_false_iff_ne];omega
   have r2:(102:Int)<(R:Int):=by omega
   have r3:(70:Int)<(R:Int):=by omega
   have MO:=Lh (fA 102 (by decide) 70 (by decide +kernel) (by decide) w3 MN.out)
   ((repeat revert K);refine vS ?_;(repeat with_reducible intro K hK))
   refine MO.out.mono ?_
   rintro e4 w4 ⟨rfl,k4,rfl⟩
   have MO:=Lh (fA 70 (by decide) 102 (by decide +kernel) (by decide) (w3.drewN k4) (MN.out.drewN k4))
   ((repeat revert K);refine vS ?_;(repeat with_reducible intro K hK))
   refine wp_loop_rounds 2 ?_
   rw [rounds_succ]
   ((repeat revert K);refine vg ?_;(repeat with_reducible intro K hK))
   refine MO.out.mono ?_
   rintro e5 w5 ⟨rfl,k5,rfl⟩
   ((repeat revert K);refine vS ?_;(repeat with_reducible intro K hK))
   rw [rounds_succ]
   ((repeat revert K);refine vg ?_;intro K hK)
   (try simp only [Exit.jump])
   (refine cW ?_)
   exact ⟨rfl,cA lJ.out _⟩
theorem VA (s:Bs) (j:Nat) (hj:j<s.length) (h:128≤(s.getD j 0).toNat):tL s=false:=by
 unfold tL
 rw [beq_eq_false_iff_ne]
 intro he
 have h1:=congrArg (fun l=>l[j]?) he
 simp only [List.getElem?_map,List.getElem?_eq_getElem hj,Option.map_some] at h1
 have h2:s[j]=s.getD j 0:=by simp [hj]
 have hm:eH s[j]∈eS:=by
  have:=List.mem_of_getElem? h1.symm
  exact this
 have h3:eH s[j]=s[j]:=by
  unfold eH
  rw [if_neg]
  simp only [Bool.and_eq_true,decide_eq_true_eq,UInt8.le_iff_toNat_le]
  rintro ⟨_,h5⟩
  have:(90:UInt8).toNat=90:=rfl
  rw [h2] at h5
  omega
 rw [h3,h2] at hm
 have h9:∀ z∈eS,z.toNat<128:=by decide
 have:=h9 _ hm
 omega
theorem DS (s:Bs) (hs:s.length≤1000000000) (w:World) (B8:lQ w) (hu:Lib.Utf8Tabs 6 7 w) :
  Calls prog 68 #[aB s,aB eS] w fun e w'=>e=.returned (.bool (tL s))∧Below w.heap.size w w':=by
 by_cases h:∃ j,j<s.length∧128≤(s.getD j 0).toNat
 ·obtain ⟨j,hj,hh⟩:=h
  rw [VA s j hj hh]
  exact JL s hs j hj hh w B8 hu
 ·have h1:=Tryz.strings_EqualFold ⟨s.toArray⟩ ⟨eS.toArray⟩ w (by simp [ByteArray.size];omega) (fun j b hb=>by
   rcases Nat.lt_or_ge b.toNat 128 with h2|h2
   ·exact h2
   ·obtain ⟨hj,he⟩:=List.getElem?_eq_some_iff.1 hb
    exact absurd ⟨j,hj,by rw [List.getD_eq_getElem?_getD,hb];exact h2⟩ h) (fun j b hb=>by
   have hm:b∈eS:=List.mem_of_getElem? hb
   have h9:∀ z∈eS,z.toNat<128:=by decide
   exact h9 b hm)
  refine h1.mono ?_
  rintro e w' ⟨rfl,rfl⟩
  refine ⟨?_,Below.refl _ _⟩
  have:=wN s eS (fun _ h=>h)
  show Ending.returned (.bool (Lib.equalFold s eS))=_
  rw [this];rfl
theorem uH (p:Bs) (hp:p≠[]):∀ l:Bs,nP p l=(lZ p l).map fun k=>l.drop (k+p.length)
 | []=>by unfold nP lZ;rw [if_neg hp,if_neg hp];rfl
 | b::r=>by
  unfold nP lZ
  split
  ·simp
  ·rw [uH p hp r,Option.map_map]
   congr 1
   funext k
   simp [Nat.succ_add]
theorem MP (c:UInt8):∀ l:Bs,(Lib.indexByte l c=-1∧iY c l=none)∨∃ j:Nat,Lib.indexByte l c=j∧j<l.length∧iY c l=some (l.take j)
 | []=>Or.inl ⟨rfl,rfl⟩
 | b::r=>by
  unfold Lib.indexByte iY
  by_cases h:b=c
  ·right
   refine ⟨0,?_,by simp,?_⟩
   ·rw [if_pos (by simpa using h)];rfl
   ·rw [if_pos h];rfl
  ·have h':(b==c)=false:=by simpa using h
   rw [h',if_neg h]
   rcases MP c r with ⟨h1,h2⟩|⟨j,h1,h2,h3⟩
   ·left
    rw [h1,h2];exact ⟨rfl,rfl⟩
   ·right
    rw [h1,h3]
    refine ⟨j+1,?_,by simp;omega,by simp⟩
    have:((j:Int) == -1)=false:=by
     rw [beq_eq_false_iff_ne];omega
    simp [this]
def a0m (p s:Bs) (w0:World) (k:Nat) (a:Act) (w:World):Prop:=
 ∃ f i,a=fr 69 f [(0,aB p),(1,aB s),(5,.int .i64 p.length),(6,.int .i64 (i:Nat)),(7,.int .u8 0)]∧w0=w∧i≤s.length∧k=s.length-i∧eN p s=eN p (s.drop i)
theorem DT (q p:Bs) (hq:q++[61]=p) (FF:p.length≤100) (s:Bs) (hs:s.length≤1000000000) (w:World) :
  Calls prog 66 #[aB q,aB s] w fun en w'=>en=.returned (aB (eN p s))∧w'=w:=by
 have hqp:(⟨q.toArray⟩:ByteArray)++⟨#[61]⟩=⟨p.toArray⟩:=by
  rw [←hq];apply ByteArray.ext;apply Array.toList_inj.1;simp
 have GQ:p≠[]:=by rw [←hq];simp
 have qH:1≤p.length:=by rw [←hq];simp
 have u7:¬ 9223372036854775807<q.length+1:=by rw [←hq] at FF;simp at FF;omega
 have HPN:=Lh GQ
 have Xs:=Lh FF
 have KO:=Lh qH
 have HS:=Lh hs
 clear hq GQ qH
 refine eJ 69 func66 [_,_] fun f=>?_
 simp only [aE]
 (refine vg ?_;intro K hK)
 (refine cJ [0,1,5,6,7] fun f=>?_)
 clear hqp u7
 refine wp_loop_ghost_k (a0m p s w) s.length ⟨f,0,rfl,rfl,Nat.zero_le _,rfl,by simp⟩ ?_
 rintro k _ w6 ⟨f,i,rfl,hww,hi,hk,hpi⟩ J K2 hJ cY
 subst hww
 have HJ:=Lh hJ
 have dN:=Lh cY
 have HK:=Lh hk
 have HPI:=Lh hpi
 clear hJ cY hk hpi
 by_cases bB:i<s.length
 ·have h1:(i:Int)<(s.length:Int):=by omega
  have h0:(0:Int)≤(i:Int):=by omega
  have h2:(i:Int)≤(s.length:Int):=by omega
  have x9:=tY s i
  have LM:(s.drop i).length=s.length-i:=List.length_drop
  have Yd:=Lh (GA (s.drop i) p w (by omega) (by omega) KO.out)
  have Nl:=Lh LM
  have cB:s.drop i≠[]:=by intro h;rw [h] at LM;simp at LM;omega
  have kP:=Lh cB
  clear LM cB
  (revert K;refine vg ?_;(repeat with_reducible intro K hK))
  refine Yd.out.mono ?_
  rintro e1 w1 ⟨rfl,rfl⟩
  clear Yd
  cases hx:lZ p (s.drop i) with
  | none=>
   have hI:y9 p (s.drop i)=-1:=by unfold y9;rw [hx]
   rw [hI]
   have dB:=Lh (show eN p s=[] by
    rw [HPI.out,eN.eq_def,if_neg kP.out]
    split
    ·rfl
    ·rfl
    ·rename_i h;rw [uH p HPN.out,hx] at h;cases h)
   clear hx hI
   ((repeat revert K);refine vS ?_;(repeat with_reducible intro K hK))
   (refine cW ?_)
   exact ⟨by rw [dB.out],rfl⟩
  | some j=>
   have hI:y9 p (s.drop i)=j:=by unfold y9;rw [hx]
   rw [hI]
   have Ey:=I7 p (s.drop i) j hx
   rw [Nl.out] at Ey
   have hj0:¬ ((j:Int)<0):=by omega
   have qF:IntKind.i64.wrap ((p.length:Int)+(j:Int))=((p.length+j:Nat):Int):=by rw [IntKind.wrap_i64];have:=Xs.out;have:=HS.out;omega
   obtain ⟨m,hm⟩:∃ m,m=p.length+j:=⟨_,rfl⟩
   rw [←hm] at qF
   have Nh:nP p (s.drop i)=some ((s.drop i).drop m):=by rw [uH p HPN.out,hx,hm];simp [Nat.add_comm]
   have Z0:(s.drop i).length=s.length-i:=Nl.out
   have HM:=Lh hm
   have hml:m≤s.length-i:=by omega
   by_cases uB:m=s.length-i
   ·have dB:=Lh (show eN p s=[] by
     rw [HPI.out,eN.eq_def,if_neg kP.out]
     split
     ·rfl
     ·rfl
     ·rename_i h;rw [Nh,List.drop_eq_nil_of_le (by rw [Z0];omega)] at h;cases h)
    have vV:((s.length-i:Nat):Int)≤(m:Int):=by omega
    clear hx hI Nh Z0 Ey hm
    ((repeat revert K);refine vS ?_;(repeat with_reducible intro K hK))
    (refine cW ?_)
    exact ⟨by rw [dB.out],rfl⟩
   ·have a0b:m<s.length-i:=by omega
    obtain ⟨c,hc⟩:∃ c,c=(s.drop i).getD m 0:=⟨_,rfl⟩
    have tX:(s.drop i).drop m=c::s.drop (i+m+1):=by
     rw [hc,List.drop_drop]
     have h3:i+m<s.length:=by omega
     rw [List.drop_eq_getElem_cons h3]
     congr 1
     simp [List.getD_eq_getElem?_getD,List.getElem?_drop,h3]
    have vV:¬ ((s.length-i:Nat):Int)≤(m:Int):=by omega
    have DU:(m:Int)<((s.length-i:Nat):Int):=by omega
    have wE:(0:Int)≤(m:Int):=by omega
    have a5c:∀ h,(⟨(s.drop i).toArray⟩:ByteArray)[m]'h=c:=by
     intro h;rw [hc];exact Yc (s.drop i) m h
    have n7:IntKind.i64.wrap ((m:Int)+1)=(m:Int)+1:=by rw [IntKind.wrap_i64];have:=HS.out;omega
    have nV:IntKind.i64.wrap ((i:Int)+((m:Int)+1))=((i+m+1:Nat):Int):=by rw [IntKind.wrap_i64];have:=HS.out;omega
    have Yg:=Lh (show eN p s=if c=39∨c=34 then (iY c (s.drop (i+m+1))).getD [] else eN p (s.drop (i+m+1)) by
     rw [HPI.out,eN.eq_def,if_neg kP.out]
     split
     ·rename_i h;rw [Nh] at h;cases h
     ·rename_i h;rw [Nh,tX] at h;cases h
     ·rename_i c' t' h
      rw [Nh,tX] at h
      simp only [oY,List.cons.injEq] at h
      obtain ⟨rfl,rfl⟩:=h
      rfl)
    have kA:=Lh (show i+m+1≤s.length by omega)
    clear hx hI Nh Z0 Ey hm tX hc
    have hi3:=tY s (i+m+1)
    by_cases hq:c=39∨c=34
    ·have vO:((c.toNat:Int)==39)=true∨(((c.toNat:Int)==39)=false∧((c.toNat:Int)==34)=true):=by
      rcases hq with rfl|rfl
      ·exact Or.inl rfl
      ·exact Or.inr ⟨rfl,rfl⟩
     have Zi:((c.toNat:Int)==0)=false:=by rcases hq with rfl|rfl<;>rfl
     have Z1:=Lh (show eN p s=(iY c (s.drop (i+m+1))).getD [] by rw [Yg.out,if_pos hq])
     have hib:=Lh (Tryz.strings_IndexByte ⟨(s.drop (i+m+1)).toArray⟩ (c.toNat:Int) w1)
     have hup:=MP c (s.drop (i+m+1))
     obtain ⟨i2,XS⟩:∃ i2,i2=i+m+1:=⟨_,rfl⟩
     have a3s:=Lh (show i2≤s.length by rw [XS];exact kA.out)
     rw [←XS] at nV hi3 hib hup
     rw [←XS] at Z1
     have Yf:(c.toNat:Int).toNat.toUInt8=c:=by simp
     have a3t:=Lh (show Calls prog 100 #[.string ⟨(s.drop i2).toArray⟩,.int .u8 (c.toNat:Int)] w1 fun e w'=>e=.returned (.int .i64 (Lib.indexByte (s.drop i2) c))∧w'=w1 by have:=hib.out;rw [Yf] at this;exact this)
     have i20:(0:Int)≤(i2:Int):=by omega
     have i21:(i2:Int)≤(s.length:Int):=by have:=a3s.out;omega
     clear hib hq XS Yf
     rcases vO with t1|⟨t1,t2⟩
     all_goals
      ((repeat revert K);refine vS ?_;(repeat with_reducible intro K hK))
      refine a3t.out.mono ?_
      rintro e2 w2 ⟨rfl,rfl⟩
      rcases hup with ⟨u1,u2⟩|⟨j2,u1,u2,u3⟩
      ·rw [u1]
       have dB:=Lh (show eN p s=[] by rw [Z1.out,u2];rfl)
       clear u1 u2
       ((repeat revert K);refine vS ?_;intro K hK)
       (refine cW ?_)
       exact ⟨by rw [dB.out],rfl⟩
      ·rw [u1]
       have dB:=Lh (show eN p s=(s.drop i2).take j2 by rw [Z1.out,u3];rfl)
       have hjj:¬ ((j2:Int)<0):=by omega
       rw [List.length_drop] at u2
       obtain ⟨en,rI⟩:∃ en,en=i2+j2:=⟨_,rfl⟩
       have AZ:IntKind.i64.wrap ((i2:Int)+(j2:Int))=(en:Int):=by rw [IntKind.wrap_i64];have:=HS.out;omega
       have h5:(en:Int)≤(s.length:Int):=by omega
       have h6:(i2:Int)≤(en:Int):=by omega
       have h7:(0:Int)≤(en:Int):=by omega
       have bQ:(⟨s.toArray⟩:ByteArray).extract i2 en=⟨((s.drop i2).take j2).toArray⟩:=by
        rw [rI]
        apply ByteArray.ext
        apply Array.toList_inj.1
        rw [Lib.extract_data];simp
       clear rI
       clear u1 u2 u3
       ((repeat revert K);refine vS ?_)
       (refine cW ?_)
       exact ⟨by rw [dB.out],rfl⟩
    ·have t1:=eU (n:=39) (fun h=>hq (Or.inl h)) rfl
     have t2:=eU (n:=34) (fun h=>hq (Or.inr h)) rfl
     have Z1:=Lh (show eN p s=eN p (s.drop (i+m+1)) by rw [Yg.out,if_neg hq])
     clear hq
     ((repeat revert K);refine vS ?_;intro K hK)
     (refine Kk [0,1,5,6,7] fun f=>?_)
     refine dN.out _ _ ⟨s.length-(i+m+1),?_,HJ.out _ _ _ ⟨f,i+m+1,rfl,rfl,kA.out,rfl,Z1.out⟩⟩
     rw [HK.out];have:=kA.out;omega
 ·have sX:i=s.length:=by omega
  subst sX
  have h1:¬ ((s.length:Int)<(s.length:Int)):=by omega
  have dB:=Lh (show eN p s=[] by rw [HPI.out,List.drop_length,eN.eq_def,if_pos rfl])
  (revert K;refine vg ?_;intro K hK)
  (refine cW ?_)
  exact ⟨by rw [dB.out],rfl⟩
abbrev zX:Bs:=[120,109,108]
theorem MQ (m:ByteArray) (w:World):Calls prog 67 #[.string m] w fun e w'=>∃ a:Addr,e=.returned (pD a)∧w.heap.size≤a.block∧Below w.heap.size w w'∧∃ cs t,aJ w' a.block cs t:=by
 refine eJ 7 func67 [_] fun f=>?_
 simp only [aE]
 refine vg ?_
 (refine cW ?_)
 exact ⟨⟨w.heap.size,0,none⟩,rfl,Nat.le_refl _,(Below.refl _ w).alloc (Nat.le_refl _) _,_,_,aJ.new w _ _⟩
theorem bX.oth {x:Cx} (hx:x.Ok) {c:DC} {w w':World} {v:DV} {rest:Bs} {e:Option EK} {buf:Bs} (h:bX x c w v rest e buf) (hb:Below w.heap.size w w') (a:Addr) (ha:w.heap.size ≤ a.block) :
    bO w' x.d c v∧jP x c (w'.setCell ⟨x.d,20,none⟩ (pD a)) { v with err:=pD a } .other∧cK x w v (w'.setCell ⟨x.d,20,none⟩ (pD a)) { v with err:=pD a }:=
  ⟨aJ.mod (S:=fun _=>False) h.dec (aH hb _) id,
   ⟨(aK.below h.base h.base.size (aH hb (fun _=>False)) (fun _ h=>h.elim)).setCell hx.d _,(show aJ _ x.d _ _ from aJ.mod (S:=fun _=>False) h.dec (aH hb _) id).set 20 _,⟨a,rfl,Nat.le_trans h.base.size ha⟩⟩,
   (cK.refl x w v).syn hb _⟩
def kU (w:World) (e:Value) (k:EK):Prop:=k=.other→∃ a cs t,e=pD a∧aJ w a.block cs t
theorem kU.no {w:World} {e:Value} {k:EK} (h:k≠.other):kU w e k:=fun hh=>absurd hh h
def jC (x:Cx) (c:DC) (w:World) (v:DV) (R:Except EK (aP×Bs)) (t e:Value) (w':World):Prop:=lP x c w v R t e w'∧∀ k,R=.error k→kU w' e k
theorem lP.o {x:Cx} {c:DC} {w:World} {v:DV} {R:Except EK (aP×Bs)} {t e:Value} {w':World} (h:lP x c w v R t e w') (hn:xM R):jC x c w v R t e w':=
 ⟨h,fun k hk=>kU.no (fun hh=>by subst hh;exact hn hk)⟩
def qX (o:cU) (tg d r:Bs):Except EK (aP×Bs):=if tg=zX∧II d=false then .error .other else .ok (.proc tg d,r)
theorem vX {s p:Bs} (h:¬ s=p):(s==p)=false∧(s != p)=true:=by
 have h1:(s==p)=false:=by simpa using h
 exact ⟨h1,by simp [h]⟩
theorem MR (c:UInt8):∀ (l r:Bs),iY c l=some r→r.length≤l.length
 | [],r,h=>by unfold iY at h;cases h
 | b::l,r,h=>by
  unfold iY at h
  split at h
  ·simp only [oY] at h;subst h;simp
  ·rw [Option.map_eq_some_iff] at h
   obtain ⟨q,hq,rfl⟩:=h
   have:=MR c l q hq
   simp;omega
theorem QK (p:Bs):∀ (n:Nat) (s:Bs),s.length≤n→(eN p s).length≤s.length:=by
 intro n
 induction n with
 | zero=>
  intro s hs
  have:s=[]:=List.eq_nil_of_length_eq_zero (by omega)
  subst this
  rw [eN.eq_def,if_pos rfl];simp
 | succ n ih=>
  intro s hs
  rw [eN.eq_def]
  split
  ·simp
  ·split
   ·simp
   ·simp
   ·rename_i c t h
    have h1:=tK h
    simp only [List.length_cons] at h1
    split
    ·cases hu:iY c t with
     | none=>simp
     | some q=>have:=MR c t q hu;simp;omega
    ·have:=ih t (by omega)
     omega
theorem VB (w:World):(binOp .eql 72 .nilFunc .nilFunc).run prog w=.ok (.bool true) w:=by kernel_rfl
theorem Ss (x:Cx) (hx:x.All) (B8:lQ x.W0) (s9:3<x.B) (c:DC) (w:World) (v:DV) (r:Bs) (b:Bs) (h:bX x c w v r none b) (lC:v.nb=-1) (tg d:Bs) (g cap:Nat) (lY:bG w g 0 d) (hl:d.length≤1000000000) (R0:d.length≤cap) (E1:cap≤9223372036854775807) (n:Nat) (rF:v.bufv=.slice (some ⟨g,0,none⟩) n cap)
  (Q:Exit→Act→World→Prop) (hQ:∀ f w' t e,jC x c w v (qX x.o tg d r) t e w'→Q .ret (fr 731 f [(2,t),(3,e)]) w') (f:Nat→Value) :
  (dM 54).wp prog Q (fr 731 f [(0,bS x),(8,aB tg),(10,.slice (some ⟨g,0,none⟩) d.length cap)]) w:=by
 have HX:=Lh hx
 have HQ:=Lh hQ
 have H:=Lh h
 have HBV:=Lh rF
 have Fi:=Lh (show ∀ w',Below x.B x.W0 w'→lQ w' from fun w' hb=>B8.below hb)
 have HU8:=Lh (fun w' (hb:Below x.B x.W0 w')=>hx.toFit.tabs hb)
 have QG:=Lh (show ∀ w',Below w.heap.size w w'→oP w' v.bufv (.slice (some ⟨g,0,none⟩) d.length cap) d from fun w' hb=>⟨g,cap,n,rfl,rF,lY.below hb,R0,E1⟩)
 have EZ:=zF d w g 0 cap lY
 have HL:=Lh hl
 have rJ:=Lh lC
 clear hx B8 s9 hQ h lY rF hl R0 E1 lC
 have Z2:=Lh (show ∀ w',Below w.heap.size w w'→qX x.o tg d r=.ok (.proc tg d,r)→jC x c w v (qX x.o tg d r) (Oa tg (.slice (some ⟨g,0,none⟩) d.length cap)) .nilIface w' from
  fun w' hb he=>⟨⟨v,(cK.refl x w v).below hb,by rw [he];exact ⟨rfl,none,b,H.out.below HX.out.toOk hb,⟨_,rfl,QG.out w' hb⟩,Or.inl rfl,rJ.out⟩⟩,fun k hk=>by rw [he] at hk;cases hk⟩)
 unfold dM
 conv=>arg 2;whnf
 by_cases It:tg=zX
 ·subst It
  have hv:=Lh (DT [118,101,114,115,105,111,110] Fu rfl (by decide) d HL.out w)
  have he:=Lh (DT [101,110,99,111,100,105,110,103] XC rfl (by decide) d HL.out w)
  (refine vg ?_;(repeat with_reducible intro K hK))
  refine hv.out.mono ?_
  rintro e1 w1 ⟨rfl,rfl⟩
  obtain ⟨ver,Su⟩:∃ ver,ver=eN Fu d:=⟨_,rfl⟩
  obtain ⟨enc,Iu⟩:∃ enc,enc=eN XC d:=⟨_,rfl⟩
  have A7:=Lh (show qX x.o zX d r=if (ver==[]||ver==[49,46,48])&&(enc==[]||tL enc) then .ok (.proc zX d,r) else .error .other by
   unfold qX II
   rw [←Su,←Iu]
   cases ((ver==[]||ver==[49,46,48])&&(enc==[]||tL enc))<;>simp)
  rw [←Su]
  rw [←Iu] at he
  have a0n:=Lh (show enc.length≤1000000000 by rw [Iu];exact Nat.le_trans (QK XC d.length d (Nat.le_refl _)) HL.out)
  clear Su Iu hv EZ
  by_cases Yh:ver=[]∨ver=[49,46,48]
  ·have hvt:(ver==[]||ver==[49,46,48])=true:=by
    rcases Yh with rfl|rfl<;>rfl
   have HVT:=Lh hvt
   clear hvt
   have vO:(ver=[])∨((ver==[])=false∧(ver != [])=true∧ver=[49,46,48]):=by
    rcases Yh with rfl|rfl
    ·exact Or.inl rfl
    ·exact Or.inr ⟨rfl,rfl,rfl⟩
   clear Yh
   rcases vO with rfl|⟨q1,q2,rfl⟩
   all_goals
    ((repeat revert K);refine vS ?_;(repeat with_reducible intro K hK))
    refine he.out.mono ?_
    rintro e2 w2 ⟨rfl,rfl⟩
    by_cases he0:enc=[]
    ·subst he0
     ((repeat revert K);refine vS ?_)
     refine Qk [2,3] fun f=>?_
     exact HQ.out f _ _ _ (Z2.out _ (Below.refl _ _) (by rw [A7.out];rfl))
    ·obtain ⟨n1,n2⟩:=vX he0
     by_cases Fd:enc=[117,116,102,45,56]
     ·subst Fd
      ((repeat revert K);refine vS ?_)
      refine Qk [2,3] fun f=>?_
      exact HQ.out f _ _ _ (Z2.out _ (Below.refl _ _) (by rw [A7.out];rfl))
     ·obtain ⟨n3,n4⟩:=vX Fd
      by_cases he2:enc=[85,84,70,45,56]
      ·subst he2
       ((repeat revert K);refine vS ?_)
       refine Qk [2,3] fun f=>?_
       exact HQ.out f _ _ _ (Z2.out _ (Below.refl _ _) (by rw [A7.out];rfl))
      ·obtain ⟨n5,n6⟩:=vX he2
       have hef:=Lh (DS enc a0n.out w2 (Fi.out _ H.out.base) (HU8.out _ H.out.base))
       have VC:=Lh (show qX x.o zX d r=if tL enc then .ok (.proc zX d,r) else .error .other by rw [A7.out,HVT.out,n1];simp)
       clear he0 Fd he2
       ((repeat revert K);refine vS ?_;(repeat with_reducible intro K hK))
       refine hef.out.mono ?_
       rintro e3 w3 ⟨rfl,l9⟩
       have lJ:=Lh l9
       have PG:=(H.out.below HX.out.toOk l9).dec
       have hc3:=PG.cell
       have hf3:=PG.frozen
       clear l9 PG hef
       cases hiu:tL enc with
       | true=>
        ((repeat revert K);refine vS ?_)
        refine Qk [2,3] fun f=>?_
        exact HQ.out f _ _ _ (Z2.out _ lJ.out (by rw [VC.out,hiu];rfl))
       | false=>
        have rI:=Lh (fun m=>MQ m w3)
        have KP:=fun w=>VB w
        ((repeat revert K);refine vS ?_;(repeat with_reducible intro K hK))
        refine (rI.out _).mono ?_
        rintro e4 w4 ⟨a4,rfl,ha4,pC,cs4,ty4,Z3⟩
        have U4:=H.out.below HX.out.toOk lJ.out
        obtain ⟨Iv,hE4,hS4⟩:=U4.oth HX.out.toOk pC a4 ha4
        have hc4:=Iv.cell
        have hf4:=Iv.frozen
        have HE4:=Lh hE4
        have HO4:=Lh (show ∀ n,aJ ((w4.setCell ⟨x.d,20,none⟩ (pD a4)).drewN n) a4.block cs4 ty4 from fun n=>aJ.mod (S:=fun k=>k=x.d) Z3 (((aK.refl (fun k=>k=x.d) w4).setCell (p:=⟨x.d,20,none⟩) (Or.inl rfl) _).drewN n) (fun hh=>by have h1:=U4.dec.lt;omega))
        have nM:=Lh (((cK.refl x w2 v).below lJ.out).trans hS4)
        clear U4 Iv hE4 hS4 pC rI hc3 hf3 Z3
        ((repeat revert K);refine vS ?_;(repeat with_reducible intro K hK))
        ((refine cJ [0] fun f=>?_);go_quiet (fail);((repeat revert K);refine vg ?_;(repeat with_reducible intro K hK));refine Qk [2,3] fun f=>?_)
        exact HQ.out f _ _ _ ⟨⟨_,nM.out.drawn _,by rw [VC.out,hiu];exact ⟨rfl,rfl,HE4.out.drewN _⟩⟩,fun _ _ _=>⟨_,_,_,rfl,HO4.out _⟩⟩
  ·have hv1:¬ ver=[]:=fun h=>Yh (Or.inl h)
   have hv2:¬ ver=[49,46,48]:=fun h=>Yh (Or.inr h)
   obtain ⟨n1,n2⟩:=vX hv1
   obtain ⟨n3,n4⟩:=vX hv2
   have VC:=Lh (show qX x.o zX d r=.error .other by rw [A7.out,n1,n3];rfl)
   have rI:=Lh (fun m=>MQ m w1)
   clear Yh hv1 hv2
   ((repeat revert K);refine vS ?_;(repeat with_reducible intro K hK))
   refine (rI.out _).mono ?_
   rintro e4 w4 ⟨a4,rfl,ha4,pC,cs4,ty4,Z3⟩
   obtain ⟨Iv,hE4,hS4⟩:=H.out.oth HX.out.toOk pC a4 ha4
   have hc4:=Iv.cell
   have hf4:=Iv.frozen
   have HE4:=Lh hE4
   have HO4:=Lh (show ∀ n,aJ ((w4.setCell ⟨x.d,20,none⟩ (pD a4)).drewN n) a4.block cs4 ty4 from fun n=>aJ.mod (S:=fun k=>k=x.d) Z3 (((aK.refl (fun k=>k=x.d) w4).setCell (p:=⟨x.d,20,none⟩) (Or.inl rfl) _).drewN n) (fun hh=>by have h1:=H.out.dec.lt;omega))
   have nM:=Lh hS4
   clear Iv hE4 hS4 pC rI Z3
   ((repeat revert K);refine vS ?_;(repeat with_reducible intro K hK))
   ((refine cJ [0] fun f=>?_);go_quiet (fail);((repeat revert K);refine vg ?_;(repeat with_reducible intro K hK));refine Qk [2,3] fun f=>?_)
   exact HQ.out f _ _ _ ⟨⟨_,nM.out.drawn _,by rw [VC.out];exact ⟨rfl,rfl,HE4.out.drewN _⟩⟩,fun _ _ _=>⟨_,_,_,rfl,HO4.out _⟩⟩
 ·obtain ⟨n1,n2⟩:=vX It
  have VC:=Lh (show qX x.o tg d r=.ok (.proc tg d,r) by unfold qX;rw [if_neg (fun h=>It h.1)])
  clear It
  refine vg ?_
  refine Qk [2,3] fun f=>?_
  exact HQ.out f _ _ _ (Z2.out _ (Below.refl _ _) VC.out)
end Go.Proofs.YtdjdjbpnbjdaaaaGreatDoor
