/- Part of the proof that laws.FnStrictIsLoose, laws.FnUnclosed, laws.FnReaderFails, laws.FnWithin, laws.FnSkip returns true for every argument. No conditions. -/
import Derived.Test.YthapcchcahnfaaaGreatDoorP21
import Derived.Lib.OthersKept
import Derived.Lib.TrimAscii
import Derived.Test.YthapcchcahnfaaaGreatDoorP22
set_option linter.all false
set_option maxHeartbeats 8000000
set_option maxRecDepth 100000
namespace Go.Proofs.YthapcchcahnfaaaGreatDoor
open Go Go.RowKit Tryz
def Bc:List Int:=(List.range 128).map fun (c:Nat)=>if 65≤c∧c≤90 then (c:Int)+32 else if c=107 then 8490 else if c=115 then 383 else if 97≤c∧c≤122 then (c:Int)-32 else c
structure jS (w:World):Prop where
 at':∀ i,i<128→w.cell? ⟨3,i,none⟩=some (.int .u16 (Bc.getD i 0))
 lt:3<w.heap.size
theorem jS.below {w w':World} (h:jS w) (a:Below w.heap.size w w'):jS w':=
 ⟨fun i b=>by rw [a.cell (p:=⟨_,i,none⟩) h.lt];exact h.at' i b,oX h.lt a.size⟩
theorem jS.drewN {w:World} (h:jS w) (k:Nat):jS (w.drewN k):=⟨h.at',h.lt⟩
theorem fN (n:Nat) (d:n<128) (m:Nat) (a:Bc.getD n 0=m) (c:m≤10000) (w:World) (h:jS w) :
  Calls prog 108 #[.int .i32 n] w fun e w'=>e=.returned (.int .i32 m)∧∃ k,w'=w.drewN k:=by
 have b:=h.at' n d;rw [a] at b;have i:(n:Int)<128:=by omega
 have j:¬ ((n:Int)<0):=by omega
 have g:(0:Int)≤(n:Int):=by omega
 have l:¬ ((1114111:Int)<(n:Int)):=by omega
 have o:IntKind.i64.wrap (n:Int)=(n:Int):=by rw [IntKind.wrap_i64];omega
 have p:IntKind.i32.wrap (m:Int)=(m:Int):=by rw [IntKind.wrap_i32];omega
 clear h a;refine eI 80 func108 [_] fun f=>?_;simp only [aF];refine vg ?_;intro K hK;refine cO ?_;exact ⟨rfl,0,rfl⟩
abbrev fJ:Bs:=[117,116,102,45,56]
theorem FW:∀ n,n<256→∀ y∈fJ,Lib.foldEq (UInt8.ofNat n) y=(fC (UInt8.ofNat n)==y):=by decide +kernel
theorem DR (x y:UInt8) (a:y∈fJ):Lib.foldEq x y=(fC x==y):=by
 have:=FW x.toNat x.toNat_lt y a;simpa using this
theorem tD:∀ (s t:Bs),(∀ y∈t,y∈fJ)→Lib.equalFold s t=(s.map fC==t)
 | [],[],_=>rfl
 | [],_::_,_=>by rw [Lib.equalFold_end _ _ (aH rfl)];simp
 | _::_,[],_=>by rw [Lib.equalFold_end _ _ (aW rfl)];simp
 | x::s,y::t,h=>by
  have a:=DR x y (h y (by simp));have c:=tD s t (fun z d=>h z (by simp [d]));cases b:Lib.foldEq x y with
  | true=>
   rw [Lib.equalFold_yes _ _ _ _ b,c];rw [b] at a;have:fC x=y:=by simpa using a.symm
   simp [this]
  | false=>
   rw [Lib.equalFold_no _ _ _ _ b];rw [b] at a;have:fC x≠y:=by simpa using a.symm
   simp [this]
theorem By:∀ n,n<256→∀ m∈[117,116,102,45,56],decide ((128:Int)≤bits .or .u8 ((n:Nat):Int) ((m:Nat):Int))=decide (128≤n):=by decide +kernel
theorem Y9 (c d:UInt8) (a:d∈fJ):decide ((128:Int)≤bits .or .u8 (c.toNat:Int) (d.toNat:Int))=decide (128≤c.toNat):=by
 refine By c.toNat c.toNat_lt d.toNat ?_;simp only [fJ,mH,xZ,or_false] at a;rcases a with rfl|rfl|rfl|rfl|rfl<;>decide
theorem Q2 {P:Program} {c:Code} {Q:Exit→Act→World→Prop} {a:Act} {w:World} (h:(Code.scope c).wp P Q a w):(Code.scope c).wp P Q a w:=h
noncomputable def Q3 (n:Nat):Code:=((Tryz.f74.body).bind (Code.partAt n)).getD .skip
def Bz (s:Bs) (N:Nat) (w0:World) (k:Nat) (a:Act) (w:World):Prop:=
 ∃ f i,a=fr 123 f [(0,aB s),(1,aB fJ),(5,.int .i64 (i:Nat)),(6,.int .i64 N)]∧w0=w∧i≤N∧k=N-i∧∀ j,j<i→(s.getD j 0).toNat<128
def Gl (s:Bs) (w0:World) (k:Nat) (a:Act) (w:World):Prop:=
 k=0∧∃ f i,a=fr 123 f [(0,aB s),(1,aB fJ),(5,.int .i64 (i:Nat))]∧w0=w∧i<s.length∧i<5∧128≤(s.getD i 0).toNat
theorem DS (s:Bs) (hs:s.length≤1000000000) (j0:Nat) (a8:j0<s.length) (a7:128≤(s.getD j0 0).toNat) (w:World) (aL:jS w) (hu:Lib.Utf8Tabs 6 7 w) :
  Calls prog 74 #[aB s,aB fJ] w fun e w'=>e=.returned (.bool false)∧Below w.heap.size w w':=by
 have ⟨b8,HU,b9,cT,HS⟩:=o4 aL hu a7 a8 hs;obtain ⟨N,hN⟩:∃ N:Nat,min (s.length:Int) 5=(N:Int):=⟨min s.length 5,by omega⟩;have HN:=Lh hN;clear aL hu a7 a8 hs;refine eI 123 func74 [_,_] fun f=>?_;simp only [aF];(repeat ((fail_if_success with_reducible refine Q2 ?_);(first|(with_reducible first|refine zA fun K hK=>?_|refine zB ?_|refine zC ?_)|((with_reducible first|refine zD rfl fun K hK=>?_|refine zE fun K hK=>?_);go_simp)|(with_reducible first|((repeat ((fail_if_success refine hK _ _ ?_);clear hK K));refine hK _ _ ?_;clear hK K)|refine zt ?_|refine zf ?_|refine zG ?_|refine zR ?_|refine zK ?_|refine zL ?_|refine zN ?_|refine zS ?_)|simp only [Exit.then,Exit.inBlock,Exit.noGoto,↓reduceIte,Nat.reduceEqDiff]|simp only [undef,reduceCtorEq,↓reduceIte])));refine cP [0,1] fun f=>?_;refine pD (rest:=.seq .skip (Q3 14)) 0 (Gl s w) (by kernel_rfl) ?_ ?_
 ·refine vg ?_;intro K hK;refine cP [0,1,5,6] fun f=>?_;refine wp_loop_ghost_k (Bz s N w) N ⟨f,0,rfl,rfl,iW _,rfl,fun j hj=>by omega⟩ ?_;rintro k _ w6 ⟨f,i,rfl,T,hi,hk,A⟩ J K2 hJ aA;subst T;have ⟨HJ,W,HK,o⟩:=kV hJ aA hk A;clear hJ aA hk A;by_cases a9:i<N
  ·have aC:N≤5∧N≤s.length:=by have:=HN.o;omega
   obtain ⟨aC,c8⟩:=aC;have F:(i:Int)<(N:Int):=by omega
   have h0:(0:Int)≤(i:Int):=by omega
   have h2:(i:Int)<(s.length:Int):=by omega
   have h3:(i:Int)<5:=by omega
   have Y:i<5:=by omega
   have c1:i<s.length:=by omega
   have Q:IntKind.i64.wrap ((i:Int)+1)=((i+1:Nat):Int):=by rw [IntKind.wrap_i64];omega
   obtain ⟨c,V⟩:=cY (s.getD i 0);obtain ⟨d,hd⟩:=cY (fJ.getD i 0);have dI:∀ h,(⟨s.toArray⟩:ByteArray)[i]'h=c:=by intro h;rw [V];exact Bb s i h
   have dT:∀ h,(⟨fJ.toArray⟩:ByteArray)[i]'h=d:=by intro h;rw [hd];exact Bb fJ i h
   have g:d∈fJ:=by rw [hd];rw [sR,List.getElem?_eq_getElem (show i<fJ.length from Y)];exact List.getElem_mem _
   have y:=Y9 c d g;have ⟨HC,v⟩:=cN V g;by_cases m:128≤c.toNat
   ·have B:decide ((128:Int)≤bits .or .u8 (c.toNat:Int) (d.toNat:Int))=true:=by rw [y];simpa using m
    have u:=Lh m;clear y hd g m V;revert K;refine vg ?_;intro K hK K hK K hK;refine wp_goto ?_;(try simp only [Exit.then,Exit.inBlock])
    refine Qk [0,1,5] fun f=>?_;exact ⟨rfl,0,rfl,f,i,rfl,rfl,c1,Y,by rw [←HC.o];exact u.o⟩
   ·have B:decide ((128:Int)≤bits .or .u8 (c.toNat:Int) (d.toNat:Int))=false:=by rw [y];simpa using m
    have c6:¬ ((128:Int)≤bits .or .u8 (c.toNat:Int) (d.toNat:Int)):=by simpa using B
    have u:=Lh m;have a0:d.toNat<128:=by
     have:∀ z∈fJ,z.toNat<128:=by decide
     exact this d g
    clear y hd g V;by_cases n:d=c
    ·subst n;clear m;revert K;refine vg ?_;intro K hK;refine Kk [0,1,5,6] fun f=>?_;refine W.o _ _ ⟨N-(i+1),by rw [HK.o];omega,HJ.o _ _ _ ⟨f,i+1,rfl,rfl,a9,rfl,fun j hj=>?_⟩⟩;by_cases L:j=i
     ·subst L;rw [←HC.o];have:=u.o;omega
     ·exact o.o j (by omega)
    ·have t1:((d.toNat:Int)==(c.toNat:Int))=false:=fL n rfl;have t2:((c.toNat:Int)==(d.toNat:Int))=false:=fL (fun h=>n h.symm) rfl;by_cases l:Lib.foldEq c d=true
     ·
      have c3:(65≤c.toNat∧c.toNat≤90∧d.toNat=c.toNat+32)∨(65≤d.toNat∧d.toNat≤90∧c.toNat=d.toNat+32):=by
       have h:=of_decide_eq_true l;rcases h with h|h|h
       ·exact absurd (UInt8.toNat_inj.1 h.symm) n
       ·exact aH h
       ·exact aW h
      rcases c3 with ⟨a1,a2,a3⟩|⟨a1,a2,a3⟩
      ·have b1:¬ ((d.toNat:Int)<(c.toNat:Int)):=by omega
       have X:(65:Int)≤(c.toNat:Int):=by omega
       have b3:(c.toNat:Int)≤90:=by omega
       have b4:IntKind.u8.wrap ((c.toNat:Int)+97)=(c.toNat:Int)+97:=by rw [IntKind.wrap_u8];omega
       have b5:IntKind.u8.wrap ((c.toNat:Int)+97-65)=(d.toNat:Int):=by rw [IntKind.wrap_u8];omega
       clear m n l a1 a2 a3;revert K;refine vg ?_;intro K hK;refine Kk [0,1,5,6] fun f=>?_;refine W.o _ _ ⟨N-(i+1),by rw [HK.o];omega,HJ.o _ _ _ ⟨f,i+1,rfl,rfl,a9,rfl,fun j hj=>?_⟩⟩;by_cases L:j=i
       ·subst L;rw [←HC.o];have:=u.o;omega
       ·exact o.o j (by omega)
      ·exfalso;have Z:∀ z∈fJ,¬ (65≤z.toNat∧z.toNat≤90):=by decide
       exact Z d v.o ⟨a1,a2⟩
     ·have M:¬ (65≤c.toNat∧c.toNat≤90∧d.toNat=c.toNat+32):=fun h=>l (decide_eq_true (aW (aH h)));have a6:¬ (65≤d.toNat∧d.toNat≤90):=by
       have Z:∀ z∈fJ,¬ (65≤z.toNat∧z.toNat≤90):=by decide
       exact Z d v.o
      have bA:c.toNat≠d.toNat:=fun h=>n (UInt8.toNat_inj.1 h.symm)
      have c4:((c.toNat:Int)<(d.toNat:Int)∧¬ ((d.toNat:Int)<(c.toNat:Int))∧¬ ((65:Int)≤(c.toNat:Int))) ∨
        ((c.toNat:Int)<(d.toNat:Int)∧¬ ((d.toNat:Int)<(c.toNat:Int))∧(65:Int)≤(c.toNat:Int)∧¬ ((c.toNat:Int)≤90)) ∨
        ((c.toNat:Int)<(d.toNat:Int)∧¬ ((d.toNat:Int)<(c.toNat:Int))∧(65:Int)≤(c.toNat:Int)∧(c.toNat:Int)≤90) ∨
        ((d.toNat:Int)<(c.toNat:Int)∧¬ ((65:Int)≤(d.toNat:Int)))∨((d.toNat:Int)<(c.toNat:Int)∧(65:Int)≤(d.toNat:Int)∧¬ ((d.toNat:Int)≤90)):=by omega
      rcases c4 with ⟨b1,X,b3⟩|⟨b1,X,b3,b4⟩|⟨b1,X,b3,b4⟩|⟨b1,X⟩|⟨b1,X,b3⟩;case inr.inr.inl=>
       have b5:IntKind.u8.wrap ((c.toNat:Int)+97)=(c.toNat:Int)+97:=by rw [IntKind.wrap_u8];omega
       have b6:IntKind.u8.wrap ((c.toNat:Int)+97-65)=(c.toNat:Int)+32:=by rw [IntKind.wrap_u8];omega
       have b7:((d.toNat:Int)==(c.toNat:Int)+32)=false:=by rw [lV];intro h;exact M ⟨by omega,by omega,by omega⟩
       clear m n l M a6 bA;revert K;refine vg ?_;intro K hK K hK;(try simp only [Exit.jump])
       refine cO ?_;exact ⟨rfl,Below.refl _ _⟩
      all_goals
       clear m n l M a6 bA;revert K;refine vg ?_;intro K hK K hK;(try simp only [Exit.jump])
       refine cO ?_;exact ⟨rfl,Below.refl _ _⟩
  ·have c2:i=N:=by omega
   subst c2;have F:¬ ((i:Int)<(i:Int)):=by omega
   have c5:((s.length:Int)==5)=false:=by
    rw [lV];intro h5;have h2:=HN.o;have h3:=o.o j0 (by have:=cT.o;omega);have:=b9.o;omega
   revert K;refine vg ?_;intro K hK;(try simp only [Exit.jump])
   refine cO ?_;exact ⟨rfl,Below.refl _ _⟩
 ·rintro k _ w6 ⟨rfl,f,i,rfl,T,hi,c9,V⟩;subst T;have h0:(0:Int)≤(i:Int):=by omega
  have F:(i:Int)≤(s.length:Int):=by omega
  have h2:(i:Int)≤5:=by omega
  have C:=rD s i;have r:(⟨fJ.toArray⟩:ByteArray).extract i 5=⟨(fJ.drop i).toArray⟩:=rD fJ i;obtain ⟨c,H⟩:=cY (s.getD i 0);obtain ⟨d,a4⟩:=cY (fJ.getD i 0);have bL:s.drop i=c::s.drop (i+1):=by rw [H,EF hi];simp [hi]
  have O:fJ.drop i=d::fJ.drop (i+1):=by
   rw [a4];have:i=0∨i=1∨i=2∨i=3∨i=4:=by omega
   rcases this with rfl|rfl|rfl|rfl|rfl<;>rfl
  rw [←H] at V;have g:d∈fJ:=by
   have:d∈fJ.drop i:=by rw [O];simp
   exact List.mem_of_mem_drop this
  rw [bL] at C;rw [O] at r;obtain ⟨S,hS⟩:=cY (c::s.drop (i+1));obtain ⟨U,hU⟩:=cY (d::fJ.drop (i+1));rw [←hS] at C;rw [←hU] at r;have Q:(w.iter ⟨S.toArray⟩ 0).heap[w.heap.size]?=some (.stringIter ⟨S.toArray⟩ 0):=World.iter_heap _ _ _;have bC:=Lib.run_next_any_at (P:=prog) (w.iter ⟨S.toArray⟩ 0) w.heap.size ⟨S.toArray⟩ 0 0 Q (by rw [hS];simp [ByteArray.size]);have q:128≤(Utf8.decode ⟨S.toArray⟩ 0).1∧(Utf8.decode ⟨S.toArray⟩ 0).1≤1114111:=by
   have hg:((⟨S.toArray⟩:ByteArray).get! 0).toNat=c.toNat:=by rw [hS];rfl
   rw [Lib.decode_at,hg];unfold Lib.decodeN;rw [aN (by omega)];repeat' split
   all_goals (simp only [];omega)
  obtain ⟨R,hR⟩:=cY ((Utf8.decode ⟨S.toArray⟩ 0).1);rw [←hR] at bC q;have a5:Lib.decodeGo ⟨U.toArray⟩=(d.toNat,1):=by
   have a0:d.toNat<128:=by
    have Z:∀ z∈fJ,z.toNat<128:=by decide
    exact Z d g
   have h8:=Lib.decodeL_ascii d (fJ.drop (i+1)) a0;rw [hU];exact h8
  have x:Below w.heap.size w ((w.iter ⟨S.toArray⟩ 0).iterAt w.heap.size ⟨S.toArray⟩ (0+(Utf8.decode ⟨S.toArray⟩ 0).2)):=by
   have F:Below w.heap.size w (w.iter ⟨S.toArray⟩ 0):=(Below.refl _ w).alloc (dD _) _;exact ⟨F.os,F.tape,F.output,by simp [World.iterAt,World.iter],fun k hk=>by
    rw [←F.block k hk];simp only [World.iterAt]
    first
     | (rw [Array.getElem?_setIfInBounds];rw [aN (by omega)])
     | (rw [Array.getElem?_modify];rw [aN (by omega)])⟩
  obtain ⟨w2,b0⟩:=cY ((w.iter ⟨S.toArray⟩ 0).iterAt w.heap.size ⟨S.toArray⟩ (0+(Utf8.decode ⟨S.toArray⟩ 0).2));rw [←b0] at bC x;have I:=Lh (Tryz.utf8_DecodeRuneInString ⟨U.toArray⟩ w2 (Utf8Tabs_below HU.o x));rw [a5] at I;have ⟨E,v⟩:=cN x g;have d2:((U.length:Int)==0)=false:=by rw [hU];simp;omega
  have c7:(1:Int)≤(U.length:Int):=by rw [hU];simp;omega
  have d0:(128:Int)≤(R:Int):=by omega
  have d1:¬ ((R:Int)<128):=by omega
  clear Q x a5 b0 hR hS hU bL O H a4 g q;unfold Q3;conv=>arg 2;arg 2;whnf
  refine vg ?_;intro K hK;refine wp_loop_once ?_;revert K;refine vg ?_;intro K hK K hK K hK;refine I.o.mono ?_;rintro e3 D ⟨rfl,G⟩;have p:=Lh (E.o.trans (G.mono E.o.size));have b:=Lh ((b8.o.below E.o).below G);have g:=v.o;clear G I;simp only [fJ,mH,xZ,or_false] at g;rcases g with rfl|rfl|rfl|rfl|rfl;case inr.inr.inr.inl=>
   have r1:((45:Int)==(R:Int))=false:=by rw [lV];omega
   have r2:(45:Int)<(R:Int):=by omega
   have a:=Lh (fN 45 (by decide) 45 (by decide +kernel) (by decide) D b.o);(repeat revert K);refine vS ?_;intro K hK K hK K hK;refine a.o.mono ?_;rintro e4 w4 ⟨rfl,t,rfl⟩;clear a;(repeat revert K);refine vS ?_;intro K hK K hK;refine wp_loop_once ?_;(repeat revert K);refine vg ?_;intro K hK;(try simp only [Exit.jump])
   refine cO ?_;exact ⟨rfl,bP p.o _⟩
  case inr.inr.inr.inr=>
   have r1:((56:Int)==(R:Int))=false:=by rw [lV];omega
   have r2:(56:Int)<(R:Int):=by omega
   have a:=Lh (fN 56 (by decide) 56 (by decide +kernel) (by decide) D b.o);(repeat revert K);refine vS ?_;intro K hK K hK K hK;refine a.o.mono ?_;rintro e4 w4 ⟨rfl,t,rfl⟩;clear a;(repeat revert K);refine vS ?_;intro K hK K hK;refine wp_loop_once ?_;(repeat revert K);refine vg ?_;intro K hK;(try simp only [Exit.jump])
   refine cO ?_;exact ⟨rfl,bP p.o _⟩
  case inl=>
   have r1:((117:Int)==(R:Int))=false:=by rw [lV];omega
   have r2:(117:Int)<(R:Int):=by omega
   have r3:(85:Int)<(R:Int):=by omega
   have a:=Lh (fN 117 (by decide) 85 (by decide +kernel) (by decide) D b.o);(repeat revert K);refine vS ?_;intro K hK K hK K hK;refine a.o.mono ?_;rintro e4 w4 ⟨rfl,t,rfl⟩;have a:=Lh (fN 85 (by decide) 117 (by decide +kernel) (by decide) (D.drewN t) (b.o.drewN t));(repeat revert K);refine vS ?_;intro K hK K hK;refine wp_loop_rounds 2 ?_;rw [rounds_succ];(repeat revert K);refine vg ?_;intro K hK K hK K hK;refine a.o.mono ?_;rintro e5 w5 ⟨rfl,k5,rfl⟩;(repeat revert K);refine vS ?_;intro K hK K hK;rw [rounds_succ];(repeat revert K);refine vg ?_;intro K hK;(try simp only [Exit.jump])
   refine cO ?_;exact ⟨rfl,bP p.o _⟩
  case inr.inl=>
   have r1:((116:Int)==(R:Int))=false:=by rw [lV];omega
   have r2:(116:Int)<(R:Int):=by omega
   have r3:(84:Int)<(R:Int):=by omega
   have a:=Lh (fN 116 (by decide) 84 (by decide +kernel) (by decide) D b.o);(repeat revert K);refine vS ?_;intro K hK K hK K hK;refine a.o.mono ?_;rintro e4 w4 ⟨rfl,t,rfl⟩;have a:=Lh (fN 84 (by decide) 116 (by decide +kernel) (by decide) (D.drewN t) (b.o.drewN t));(repeat revert K);refine vS ?_;intro K hK K hK;refine wp_loop_rounds 2 ?_;rw [rounds_succ];(repeat revert K);refine vg ?_;intro K hK K hK K hK;refine a.o.mono ?_;rintro e5 w5 ⟨rfl,k5,rfl⟩;(repeat revert K);refine vS ?_;intro K hK K hK;rw [rounds_succ];(repeat revert K);refine vg ?_;intro K hK;(try simp only [Exit.jump])
   refine cO ?_;exact ⟨rfl,bP p.o _⟩
  case inr.inr.inl=>
   have r1:((102:Int)==(R:Int))=false:=by rw [lV];omega
   have r2:(102:Int)<(R:Int):=by omega
   have r3:(70:Int)<(R:Int):=by omega
   have a:=Lh (fN 102 (by decide) 70 (by decide +kernel) (by decide) D b.o);(repeat revert K);refine vS ?_;intro K hK K hK K hK;refine a.o.mono ?_;rintro e4 w4 ⟨rfl,t,rfl⟩;have a:=Lh (fN 70 (by decide) 102 (by decide +kernel) (by decide) (D.drewN t) (b.o.drewN t));(repeat revert K);refine vS ?_;intro K hK K hK;refine wp_loop_rounds 2 ?_;rw [rounds_succ];(repeat revert K);refine vg ?_;intro K hK K hK K hK;refine a.o.mono ?_;rintro e5 w5 ⟨rfl,k5,rfl⟩;(repeat revert K);refine vS ?_;intro K hK K hK;rw [rounds_succ];(repeat revert K);refine vg ?_;intro K hK;(try simp only [Exit.jump])
   refine cO ?_;exact ⟨rfl,bP p.o _⟩
theorem NH (s:Bs) (j:Nat) (c:j<s.length) (h:128≤(s.getD j 0).toNat):qU s=false:=by
 unfold qU;rw [lV];intro i;have a:=congrArg (fun l=>l[j]?) i;simp only [List.getElem?_map,List.getElem?_eq_getElem c,Option.map_some] at a;have b:s[j]=s.getD j 0:=by simp [c]
 have d:fC s[j]∈fJ:=by
  have:=List.mem_of_getElem? a.symm;exact this
 have e:fC s[j]=s[j]:=by
  unfold fC;rw [aN];simp only [G9,KF,UInt8.le_iff_toNat_le];rintro ⟨_,f⟩;have:(90:UInt8).toNat=90:=rfl;rw [b] at f;omega
 rw [e,b] at d;have g:∀ z∈fJ,z.toNat<128:=by decide
 have:=g _ d;omega
theorem AE (s:Bs) (m:s.length≤1000000000) (w:World) (f:jS w) (n:Lib.Utf8Tabs 6 7 w) :
  Calls prog 74 #[aB s,aB fJ] w fun e w'=>e=.returned (.bool (qU s))∧Below w.heap.size w w':=by
 by_cases h:∃ j,j<s.length∧128≤(s.getD j 0).toNat
 ·obtain ⟨j,c,g⟩:=h;rw [NH s j c g];exact DS s m j c g w f n
 ·have i:=Tryz.strings_EqualFold ⟨s.toArray⟩ ⟨fJ.toArray⟩ w (by simp [ByteArray.size];omega) (fun j b a=>by
   rcases Nat.lt_or_ge b.toNat 128 with d|d
   ·exact d
   ·obtain ⟨c,o⟩:=A1.1 a;exact absurd ⟨j,c,by rw [sR,a];exact d⟩ h) (fun j b a=>by
   have l:b∈fJ:=List.mem_of_getElem? a;have k:∀ z∈fJ,z.toNat<128:=by decide
   exact k b l)
  refine i.mono ?_;rintro e w' ⟨rfl,rfl⟩;refine ⟨?_,Below.refl _ _⟩;have:=tD s fJ (fun _ h=>h);show Ending.returned (.bool (Lib.equalFold s fJ))=_;rw [this];rfl
theorem rJ (p:Bs) (a:p≠[]):∀ l:Bs,mV p l=(lM p l).map fun k=>l.drop (k+p.length)
 | []=>by unfold mV lM;rw [aN a,aN a];rfl
 | b::r=>by
  unfold mV lM;split
  ·simp
  ·rw [rJ p a r,Option.map_map]
   congr 1
   funext k
   simp [Nat.succ_add]
theorem FX (c:UInt8):∀ l:Bs,(Lib.indexByte l c=-1∧iV c l=none)∨∃ j:Nat,Lib.indexByte l c=j∧j<l.length∧iV c l=some (l.take j)
 | []=>aH ⟨rfl,rfl⟩
 | b::r=>by
  unfold Lib.indexByte iV;by_cases h:b=c
  ·right;refine ⟨0,?_,by simp,?_⟩
   ·rw [aV (by simpa using h)];rfl
   ·rw [aV h];rfl
  ·have e:(b==c)=false:=by simpa using h
   rw [e,aN h];rcases FX c r with ⟨a,d⟩|⟨j,a,d,f⟩
   ·left;rw [a,d];exact ⟨rfl,rfl⟩
   ·right;rw [a,f];refine ⟨j+1,?_,by simp;omega,by simp⟩;have:((j:Int) == -1)=false:=by
     rw [lV];omega
    simp [this]
def Ca (p s:Bs) (w0:World) (k:Nat) (a:Act) (w:World):Prop:=
 ∃ f i,a=fr 69 f [(0,aB p),(1,aB s),(5,.int .i64 p.length),(6,.int .i64 (i:Nat)),(7,.int .u8 0)]∧w0=w∧i≤s.length∧k=s.length-i∧fG p s=fG p (s.drop i)
theorem AF (q p:Bs) (l:q++[61]=p) (D:p.length≤100) (s:Bs) (hs:s.length≤1000000000) (w:World) :
  Calls prog 72 #[aB q,aB s] w fun A w'=>A=.returned (aB (fG p s))∧w'=w:=by
 have a3:(⟨q.toArray⟩:ByteArray)++⟨#[61]⟩=⟨p.toArray⟩:=by
  rw [←l];apply ByteArray.ext;apply Array.toList_inj.1;simp
 have U:p≠[]:=by rw [←l];simp
 have S:1≤p.length:=by rw [←l];simp
 have aC:¬ 9223372036854775807<q.length+1:=by rw [←l] at D;simp at D;omega
 have ⟨H,aA,Z,X⟩:=kV U D S hs;clear l U S;refine eI 69 func72 [_,_] fun f=>?_;simp only [aF];refine vg ?_;intro K hK;refine cP [0,1,5,6,7] fun f=>?_;clear a3 aC;refine wp_loop_ghost_k (Ca p s w) s.length ⟨f,0,rfl,rfl,iW _,rfl,by simp⟩ ?_;rintro k _ w6 ⟨f,i,rfl,a6,hi,hk,T⟩ J K2 hJ L;subst a6;have ⟨HJ,Y,HK,t⟩:=kV hJ L hk T;clear hJ L hk T;by_cases b3:i<s.length
 ·have h1:(i:Int)<(s.length:Int):=by omega
  have h0:(0:Int)≤(i:Int):=by omega
  have h2:(i:Int)≤(s.length:Int):=by omega
  have bC:=rD s i;have u:(s.drop i).length=s.length-i:=eY;have P:=Lh (BW (s.drop i) p w (by omega) (by omega) Z.o);have F:=Lh u;have R:s.drop i≠[]:=by intro h;rw [h] at u;simp at u;omega
  have z:=Lh R;clear u R;revert K;refine vg ?_;intro K hK K hK K hK;refine P.o.mono ?_;rintro e1 w1 ⟨rfl,rfl⟩;clear P;cases x:lM p (s.drop i) with
  | none=>
   have E:vZ p (s.drop i)=-1:=by unfold vZ;rw [x]
   rw [E];have a:=Lh (show fG p s=[] by
    rw [t.o,fG.eq_def,aN z.o];split
    ·rfl
    ·rfl
    ·rename_i h;rw [rJ p H.o,x] at h;cases h)
   clear x E;(repeat revert K);refine vS ?_;intro K hK K hK;refine cO ?_;exact ⟨by rw [a.o],rfl⟩
  | some j=>
   have E:vZ p (s.drop i)=j:=by unfold vZ;rw [x]
   rw [E];have C:=DL p (s.drop i) j x;rw [F.o] at C;have b1:¬ ((j:Int)<0):=by omega
   have a4:IntKind.i64.wrap ((p.length:Int)+(j:Int))=((p.length+j:Nat):Int):=by rw [IntKind.wrap_i64];have:=aA.o;have:=X.o;omega
   obtain ⟨m,Q⟩:=cY (p.length+j);rw [←Q] at a4;have o:mV p (s.drop i)=some ((s.drop i).drop m):=by rw [rJ p H.o,x,Q];simp [Nat.add_comm]
   have g:(s.drop i).length=s.length-i:=F.o;have HM:=Lh Q;have b5:m≤s.length-i:=by omega
   by_cases a7:m=s.length-i
   ·have a:=Lh (show fG p s=[] by
     rw [t.o,fG.eq_def,aN z.o];split
     ·rfl
     ·rfl
     ·rename_i h;rw [o,vN (by rw [g];omega)] at h;cases h)
    have a0:((s.length-i:Nat):Int)≤(m:Int):=by omega
    clear x E o g C Q;(repeat revert K);refine vS ?_;intro K hK K hK;refine cO ?_;exact ⟨by rw [a.o],rfl⟩
   ·have bA:m<s.length-i:=by omega
    obtain ⟨c,hc⟩:=cY ((s.drop i).getD m 0);have d:(s.drop i).drop m=c::s.drop (i+m+1):=by
     rw [hc,List.drop_drop];have h3:i+m<s.length:=by omega
     rw [EF h3]
     congr 1
     simp [sR,List.getElem?_drop,h3]
    have a0:¬ ((s.length-i:Nat):Int)≤(m:Int):=by omega
    have a8:(m:Int)<((s.length-i:Nat):Int):=by omega
    have b4:(0:Int)≤(m:Int):=by omega
    have a9:∀ h,(⟨(s.drop i).toArray⟩:ByteArray)[m]'h=c:=by
     intro h;rw [hc];exact Bb (s.drop i) m h
    have b6:IntKind.i64.wrap ((m:Int)+1)=(m:Int)+1:=by rw [IntKind.wrap_i64];have:=X.o;omega
    have a5:IntKind.i64.wrap ((i:Int)+((m:Int)+1))=((i+m+1:Nat):Int):=by rw [IntKind.wrap_i64];have:=X.o;omega
    have I:=Lh (show fG p s=if c=39∨c=34 then (iV c (s.drop (i+m+1))).getD [] else fG p (s.drop (i+m+1)) by
     rw [t.o,fG.eq_def,aN z.o];split
     ·rename_i h;rw [o] at h;cases h
     ·rename_i h;rw [o,d] at h;cases h
     ·rename_i c' t' h;rw [o,d] at h;simp only [kD,List.cons.injEq] at h;obtain ⟨rfl,rfl⟩:=h;rfl)
    have y:=Lh (show i+m+1≤s.length by omega);clear x E o g C Q d hc;have a1:=rD s (i+m+1);by_cases l:c=39∨c=34
    ·have aL:((c.toNat:Int)==39)=true∨(((c.toNat:Int)==39)=false∧((c.toNat:Int)==34)=true):=by
      rcases l with rfl|rfl
      ·exact aH rfl
      ·exact aW ⟨rfl,rfl⟩
     have bL:((c.toNat:Int)==0)=false:=by rcases l with rfl|rfl<;>rfl
     have b:=Lh (show fG p s=(iV c (s.drop (i+m+1))).getD [] by rw [I.o,aV l]);have B:=Lh (Tryz.strings_IndexByte ⟨(s.drop (i+m+1)).toArray⟩ (c.toNat:Int) w1);have V:=FX c (s.drop (i+m+1));obtain ⟨r,v⟩:=cY (i+m+1);have G:=Lh (show r≤s.length by rw [v];exact y.o);rw [←v] at a5 a1 B V;rw [←v] at b;have M:(c.toNat:Int).toNat.toUInt8=c:=by simp
     have O:=Lh (show Calls prog 106 #[.string ⟨(s.drop r).toArray⟩,.int .u8 (c.toNat:Int)] w1 fun e w'=>e=.returned (.int .i64 (Lib.indexByte (s.drop r) c))∧w'=w1 by have:=B.o;rw [M] at this;exact this);have b8:(0:Int)≤(r:Int):=by omega
     have b9:(r:Int)≤(s.length:Int):=by have:=G.o;omega
     clear B l v M;rcases aL with t1|⟨t1,t2⟩
     all_goals
      (repeat revert K);refine vS ?_;intro K hK K hK;refine O.o.mono ?_;rintro e2 w2 ⟨rfl,rfl⟩;rcases V with ⟨u1,u2⟩|⟨W,u1,u2,u3⟩
      ·rw [u1];have a:=Lh (show fG p s=[] by rw [b.o,u2];rfl);clear u1 u2;(repeat revert K);refine vS ?_;intro K hK;refine cO ?_;exact ⟨by rw [a.o],rfl⟩
      ·rw [u1];have a:=Lh (show fG p s=(s.drop r).take W by rw [b.o,u3];rfl);have b2:¬ ((W:Int)<0):=by omega
       rw [eY] at u2;obtain ⟨A,N⟩:=cY (r+W);have b7:IntKind.i64.wrap ((r:Int)+(W:Int))=(A:Int):=by rw [IntKind.wrap_i64];have:=X.o;omega
       have h5:(A:Int)≤(s.length:Int):=by omega
       have h6:(r:Int)≤(A:Int):=by omega
       have h7:(0:Int)≤(A:Int):=by omega
       have b0:(⟨s.toArray⟩:ByteArray).extract r A=⟨((s.drop r).take W).toArray⟩:=by
        rw [N];apply ByteArray.ext
        apply Array.toList_inj.1
        rw [Lib.extract_data];simp
       clear N;clear u1 u2 u3;(repeat revert K);refine vS ?_;refine cO ?_;exact ⟨by rw [a.o],rfl⟩
    ·have t1:=fL (n:=39) (fun h=>l (aH h)) rfl;have t2:=fL (n:=34) (fun h=>l (aW h)) rfl;have b:=Lh (show fG p s=fG p (s.drop (i+m+1)) by rw [I.o,aN l]);clear l;(repeat revert K);refine vS ?_;intro K hK;refine Kk [0,1,5,6,7] fun f=>?_;refine Y.o _ _ ⟨s.length-(i+m+1),?_,HJ.o _ _ _ ⟨f,i+m+1,rfl,rfl,y.o,rfl,b.o⟩⟩;rw [HK.o];have:=y.o;omega
 ·have a2:i=s.length:=by omega
  subst a2;have h1:¬ ((s.length:Int)<(s.length:Int)):=by omega
  have a:=Lh (show fG p s=[] by rw [t.o,List.drop_length,fG.eq_def,aV rfl]);revert K;refine vg ?_;intro K hK;refine cO ?_;exact ⟨by rw [a.o],rfl⟩
abbrev wG:Bs:=[120,109,108]
theorem FY (m:ByteArray) (w:World):Calls prog 73 #[.string m] w fun e w'=>∃ a:Addr,e=.returned (nJ a)∧w.heap.size≤a.block∧Below w.heap.size w w'∧∃ cs t,aJ w' a.block cs t:=by
 refine eI 7 func73 [_] fun f=>?_;simp only [aF];refine vg ?_;refine cO ?_;exact ⟨⟨w.heap.size,0,none⟩,rfl,dD _,(Below.refl _ w).alloc (dD _) _,_,_,aJ.new w _ _⟩
theorem cK.oth {x:Cx} (g:x.Ok) {c:DC} {w w':World} {v:DV} {rest:Bs} {e:Option EK} {d:Bs} (h:cK x c w v rest e d) (b:Below w.heap.size w w') (a:Addr) (f:w.heap.size ≤ a.block) :
    bX w' x.d c v∧jM x c (w'.setCell ⟨x.d,20,none⟩ (nJ a)) { v with err:=nJ a } .other∧dB x w v (w'.setCell ⟨x.d,20,none⟩ (nJ a)) { v with err:=nJ a }:=
  ⟨aJ.mod (S:=fun _=>False) h.dec (aG b _) id,
   ⟨(aM.below h.base h.base.size (aG b (fun _=>False)) (fun _ h=>h.elim)).setCell g.d _,(show aJ _ x.d _ _ from aJ.mod (S:=fun _=>False) h.dec (aG b _) id).set 20 _,⟨a,rfl,fX h.base.size f⟩⟩,
   (dB.refl x w v).syn b _⟩
def kL (w:World) (e:Value) (k:EK):Prop:=k=.other→∃ a cs t,e=nJ a∧aJ w a.block cs t
theorem kL.no {w:World} {e:Value} {k:EK} (h:k≠.other):kL w e k:=fun a=>absurd a h
def iX (x:Cx) (c:DC) (w:World) (v:DV) (R:Except EK (aO×Bs)) (t e:Value) (w':World):Prop:=lF x c w v R t e w'∧∀ k,R=.error k→kL w' e k
theorem lF.o {x:Cx} {c:DC} {w:World} {v:DV} {R:Except EK (aO×Bs)} {t e:Value} {w':World} (h:lF x c w v R t e w') (d:tX R):iX x c w v R t e w':=
 ⟨h,fun k b=>kL.no (fun a=>by subst a;exact d b)⟩
def pF (o:cM) (a d r:Bs):Except EK (aO×Bs):=if a=wG∧CV d=false then .error .other else .ok (.proc a d,r)
theorem sY {s p:Bs} (h:¬ s=p):(s==p)=false∧(s != p)=true:=by
 have a:(s==p)=false:=by simpa using h
 exact ⟨a,by simp [h]⟩
theorem FZ (c:UInt8):∀ (l r:Bs),iV c l=some r→r.length≤l.length
 | [],r,h=>by unfold iV at h;cases h
 | b::l,r,h=>by
  unfold iV at h;split at h
  ·simp only [kD] at h;subst h;simp
  ·rw [Option.map_eq_some_iff] at h;obtain ⟨q,a,rfl⟩:=h;have:=FZ c l q a;simp;omega
theorem JC (p:Bs):∀ (n:Nat) (s:Bs),s.length≤n→(fG p s).length≤s.length:=by
 intro n;induction n with
 | zero=>
  intro s b;have:s=[]:=tZ (by omega);subst this;rw [fG.eq_def,aV rfl];simp
 | succ n ih=>
  intro s b;rw [fG.eq_def];split
  ·simp
  ·split
   ·simp
   ·simp
   ·rename_i c t h;have a:=qT h;simp only [gN] at a;split
    ·cases d:iV c t with
     | none=>simp
     | some q=>have:=FZ c t q d;simp;omega
    ·have:=ih t (by omega);omega
theorem NI (w:World):(binOp .eql 76 .nilFunc .nilFunc).run prog w=.ok (.bool true) w:=by kernel_rfl
theorem ZA (x:Cx) (hx:x.All) (a1:jS x.W0) (a2:3<x.B) (c:DC) (w:World) (v:DV) (r:Bs) (b:Bs) (h:cK x c w v r none b) (a8:v.nb=-1) (G d:Bs) (g l:Nat) (X:bN w g 0 d) (hl:d.length≤1000000000) (a3:d.length≤l) (a5:l≤9223372036854775807) (n:Nat) (W:v.bufv=.slice (some ⟨g,0,none⟩) n l)
  (Q:Exit→Act→World→Prop) (hQ:∀ f w' t e,iX x c w v (pF x.o G d r) t e w'→Q .ret (fr 731 f [(2,t),(3,e)]) w') (f:Nat→Value) :
  (eH 54).wp prog Q (fr 731 f [(0,cB x),(8,aB G),(10,.slice (some ⟨g,0,none⟩) d.length l)]) w:=by
 have ⟨HX,N,H,b9⟩:=kV hx hQ h W;have bL:=Lh (show ∀ w',Below x.B x.W0 w'→jS w' from fun w' F=>a1.below F);have b1:=Lh (fun w' (F:Below x.B x.W0 w')=>hx.toFit.tabs F);have a0:=Lh (show ∀ w',Below w.heap.size w w'→nK w' v.bufv (.slice (some ⟨g,0,none⟩) d.length l) d from fun w' F=>⟨g,l,n,rfl,W,X.below F,a3,a5⟩);have b6:=wE d w g 0 l X;have ⟨HL,b0⟩:=cN hl a8;clear hx a1 a2 hQ h X W hl a3 a5 a8
 have j:=Lh (show ∀ w',Below w.heap.size w w'→pF x.o G d r=.ok (.proc G d,r)→iX x c w v (pF x.o G d r) (XY G (.slice (some ⟨g,0,none⟩) d.length l)) .nilIface w' from
  fun w' F he=>⟨⟨v,(dB.refl x w v).below F,by rw [he];exact ⟨rfl,none,b,H.o.below HX.o.toOk F,⟨_,rfl,a0.o w' F⟩,aH rfl,b0.o⟩⟩,fun k hk=>by rw [he] at hk;cases hk⟩)
 unfold eH;conv=>arg 2;whnf
 by_cases u:G=wG
 ·subst u;have hv:=Lh (AF [118,101,114,115,105,111,110] TT rfl (by decide) d HL.o w);have he:=Lh (AF [101,110,99,111,100,105,110,103] OV rfl (by decide) d HL.o w);refine vg ?_;intro K hK K hK K hK;refine hv.o.mono ?_;rintro e1 w1 ⟨rfl,rfl⟩;obtain ⟨a,E⟩:=cY (fG TT d);obtain ⟨enc,s⟩:=cY (fG OV d);have z:=Lh (show pF x.o wG d r=if (a==[]||a==[49,46,48])&&(enc==[]||qU enc) then .ok (.proc wG d,r) else .error .other by
   unfold pF CV;rw [←E,←s];cases ((a==[]||a==[49,46,48])&&(enc==[]||qU enc))<;>simp)
  rw [←E];rw [←s] at he;have L:=Lh (show enc.length≤1000000000 by rw [s];exact fX (JC OV d.length d (dD _)) HL.o);clear E s hv b6;by_cases y:a=[]∨a=[49,46,48]
  ·have bC:(a==[]||a==[49,46,48])=true:=by
    rcases y with rfl|rfl<;>rfl
   have b2:=Lh bC;clear bC;have b5:(a=[])∨((a==[])=false∧(a != [])=true∧a=[49,46,48]):=by
    rcases y with rfl|rfl
    ·exact aH rfl
    ·exact aW ⟨rfl,rfl,rfl⟩
   clear y;rcases b5 with rfl|⟨q1,q2,rfl⟩
   all_goals
    (repeat revert K);refine vS ?_;intro K hK K hK K hK;refine he.o.mono ?_;rintro e2 w2 ⟨rfl,rfl⟩;by_cases Z:enc=[]
    ·subst Z;(repeat revert K);refine vS ?_;refine Qk [2,3] fun f=>?_;exact N.o f _ _ _ (j.o _ (Below.refl _ _) (by rw [z.o];rfl))
    ·obtain ⟨n1,n2⟩:=sY Z;by_cases aA:enc=[117,116,102,45,56]
     ·subst aA;(repeat revert K);refine vS ?_;refine Qk [2,3] fun f=>?_;exact N.o f _ _ _ (j.o _ (Below.refl _ _) (by rw [z.o];rfl))
     ·obtain ⟨n3,n4⟩:=sY aA;by_cases aC:enc=[85,84,70,45,56]
      ·subst aC;(repeat revert K);refine vS ?_;refine Qk [2,3] fun f=>?_;exact N.o f _ _ _ (j.o _ (Below.refl _ _) (by rw [z.o];rfl))
      ·obtain ⟨n5,n6⟩:=sY aC;have a6:=Lh (AE enc L.o w2 (bL.o _ H.o.base) (b1.o _ H.o.base));have i:=Lh (show pF x.o wG d r=if qU enc then .ok (.proc wG d,r) else .error .other by rw [z.o,b2.o,n1];simp);clear Z aA aC;(repeat revert K);refine vS ?_;intro K hK K hK K hK;refine a6.o.mono ?_;rintro e3 w3 ⟨rfl,V⟩;have I:=Lh V;have Y:=(H.o.below HX.o.toOk V).dec;have b3:=Y.cell;have b7:=Y.frozen;clear V Y a6;cases a7:qU enc with
       | true=>
        (repeat revert K);refine vS ?_;refine Qk [2,3] fun f=>?_;exact N.o f _ _ _ (j.o _ I.o (by rw [i.o,a7];rfl))
       | false=>
        have D:=Lh (fun m=>FY m w3);have cT:=fun w=>NI w;(repeat revert K);refine vS ?_;intro K hK K hK K hK K hK;refine (D.o _).mono ?_;rintro e4 w4 ⟨P,rfl,U,C,R,aL,o⟩;have T:=H.o.below HX.o.toOk I.o;obtain ⟨q,A,B⟩:=T.oth HX.o.toOk C P U;have b4:=q.cell;have b8:=q.frozen;have J:=Lh A;have M:=Lh (show ∀ n,aJ ((w4.setCell ⟨x.d,20,none⟩ (nJ P)).drewN n) P.block R aL from fun n=>aJ.mod (S:=fun k=>k=x.d) o (((aM.refl (fun k=>k=x.d) w4).setCell (p:=⟨x.d,20,none⟩) (aH rfl) _).drewN n) (fun hh=>by have h1:=T.dec.lt;omega));have O:=Lh (((dB.refl x w2 v).below I.o).trans B);clear T q A B C D b3 b7 o;(repeat revert K);refine vS ?_;intro K hK K hK K hK
        ((refine cP [0] fun f=>?_);go_quiet (fail);((repeat revert K);refine vg ?_;intro K hK K hK);refine Qk [2,3] fun f=>?_)
        exact N.o f _ _ _ ⟨⟨_,O.o.drawn _,by rw [i.o,a7];exact ⟨rfl,rfl,J.o.drewN _⟩⟩,fun _ _ _=>⟨_,_,_,rfl,M.o _⟩⟩
  ·have a9:¬ a=[]:=fun h=>y (aH h);have bA:¬ a=[49,46,48]:=fun h=>y (aW h);obtain ⟨n1,n2⟩:=sY a9;obtain ⟨n3,n4⟩:=sY bA;have i:=Lh (show pF x.o wG d r=.error .other by rw [z.o,n1,n3];rfl);have D:=Lh (fun m=>FY m w1);clear y a9 bA;(repeat revert K);refine vS ?_;intro K hK K hK K hK K hK;refine (D.o _).mono ?_;rintro e4 w4 ⟨P,rfl,U,C,R,aL,o⟩;obtain ⟨q,A,B⟩:=H.o.oth HX.o.toOk C P U;have b4:=q.cell;have b8:=q.frozen;have J:=Lh A;have M:=Lh (show ∀ n,aJ ((w4.setCell ⟨x.d,20,none⟩ (nJ P)).drewN n) P.block R aL from fun n=>aJ.mod (S:=fun k=>k=x.d) o (((aM.refl (fun k=>k=x.d) w4).setCell (p:=⟨x.d,20,none⟩) (aH rfl) _).drewN n) (fun hh=>by have h1:=H.o.dec.lt;omega));have O:=Lh B;clear q A B C D o;(repeat revert K);refine vS ?_;intro K hK K hK K hK
   ((refine cP [0] fun f=>?_);go_quiet (fail);((repeat revert K);refine vg ?_;intro K hK K hK);refine Qk [2,3] fun f=>?_)
   exact N.o f _ _ _ ⟨⟨_,O.o.drawn _,by rw [i.o];exact ⟨rfl,rfl,J.o.drewN _⟩⟩,fun _ _ _=>⟨_,_,_,rfl,M.o _⟩⟩
 ·obtain ⟨n1,n2⟩:=sY u;have i:=Lh (show pF x.o G d r=.ok (.proc G d,r) by unfold pF;rw [aN (fun h=>u h.1)]);clear u;refine vg ?_;refine Qk [2,3] fun f=>?_;exact N.o f _ _ _ (j.o _ (Below.refl _ _) i.o)
def Cb (x:Cx) (c:DC) (w0:World) (v0:DV) (d:Bs) (g:Bs) (k:Nat) (a:Act) (w:World):Prop:=
 ∃ f v rest b0 b e,a=fr 731 f [(0,cB x),(8,aB g),(9,.int .u8 (UInt8.toNat b0))]∧cK x c w v rest e b∧dB x w0 v0 w v∧k=rest.length ∧
  gH x.o.fails d 0 []=gH x.o.fails rest b0 b∧(b0=63→1≤b.length)∧b.length+rest.length=d.length
theorem Q4 {o:cM} {rest a r:Bs} (h:eE o.fails rest=.ok (a,r)):vL o rest=match gH o.fails (aT r) 0 [] with
 | .error e=>.error e
 | .ok (inst,r2)=>pF o a inst r2:=by
 unfold vL;rw [h];rfl
theorem Cc (x:Cx) (hx:x.All) (a6:jS x.W0) (I:3<x.B) (c:DC) (X:iU x c) (w:World) (v:DV) (rest:Bs) (e:Option EK) (a2:Bs) (h:cK x c w v rest e a2) (Q:Exit→Act→World→Prop)
  (hQ:∀ f w' t e,iX x c w v (vL x.o rest) t e w'→Q .ret (fr 731 f [(2,t),(3,e)]) w') (f:Nat→Value) :
  (eH 37).wp prog Q (fr 731 f [(0,cB x)]) w:=by
 have b5:=Lh (QB x hx.toFit c X w v rest e a2 h);have ⟨G,c3,aC,HD,HQ⟩:=o4 hx a6 I X hQ;have d0:=Lh (show rest.length≤1000000000 from fX (h.suf.length_le) hx.len);clear h hx a6 I X hQ;unfold eH;conv=>arg 2;whnf
 refine vg ?_;intro K hK K hK K hK;refine b5.o.mono ?_;rintro e2 w2 ⟨v2,b7,F⟩;have S:=Lh b7;clear b7 b5;cases E:eE x.o.fails rest with
 | error k=>
  rw [E] at F;obtain ⟨rfl,e1⟩:=F;have a:=Lh (show vL x.o rest=.error k by unfold vL;rw [E]);have aL:=Lh (show tX (.error k:Except EK (aO×Bs)) from lQ (FJ _ _) E);rcases e1 with u|⟨rfl,r,b,H⟩
  ·obtain ⟨t1,u1,Z⟩:=u.err.iface;have HE:=Lh u;have hc:=u.dec.cell;have hf:=u.dec.frozen;have HU:=Lh Z;clear u E;(repeat revert K);refine vS ?_;intro K hK K hK
   ((refine cP [0] fun f=>?_);go_quiet (fail);((repeat revert K);refine vg ?_;intro K hK);refine Qk [2,3] fun f=>?_)
   exact HQ.o f _ _ _ (lF.o ⟨v2,S.o.drawn _,by rw [a.o];exact ⟨rfl,HU.o.symm,HE.o.drewN _⟩⟩ (by rw [a.o];exact aL.o))
  ·have he:v2.err=.nilIface:=H.err;have hc:=H.dec.cell;have hf:=H.dec.frozen;have d3:=Lh (fun f2=>gV G.o.toOk H f2);clear H E;(repeat revert K);refine vS ?_;intro K hK K hK K hK;refine (d3.o _).mono ?_;rintro e3 w3 ⟨a9,rfl,hS⟩;have f5:=hS.dec.cell;have f6:=hS.dec.frozen;have HS:=Lh hS;clear hS hc hf he;(repeat revert K);refine vS ?_;intro K hK K hK
   ((refine cP [0] fun f=>?_);go_quiet (fail);((repeat revert K);refine vg ?_;intro K hK);refine Qk [2,3] fun f=>?_)
   exact HQ.o f _ _ _ (lF.o ⟨_,(S.o.trans HS.o.stp).drawn _,by rw [a.o];exact ⟨rfl,rfl,HS.o.err.drewN _⟩⟩ (by rw [a.o];exact aL.o))
 | ok p=>
  obtain ⟨tg,r⟩:=p;rw [E] at F;obtain ⟨rfl,H⟩:=F;have a:=Lh (Q4 (o:=x.o) E);have cT:=Lh (uJ x G.o.toOk c HD.o w2 v2 r none tg H);have R:=Lh (show r.length≤1000000000 from by have:=(vO E).2;have:=d0.o;omega);clear H E;(repeat revert K);refine vS ?_;intro K hK K hK;refine cT.o.mono ?_;rintro e3 w3 ⟨rfl,v3,a3,hP⟩;have d1:=Lh (S.o.s0 hP.mod hP.bufv);have b6:=Lh (pW x G.o.toOk c w3 v3 (aT r) a3 tg hP.rd);have s:=Lh (show (aT r).length≤1000000000 from by have:=(fH r).length_le;have:=R.o;omega);clear hP cT;(repeat revert K);refine vS ?_;intro K hK K hK;refine b6.o.mono ?_;rintro e5 w5 ⟨rfl,v5,a5,e0,a7,b1,f0⟩;have d2:=Lh (d1.o.trans (dB.ofS0 b1 a7));have a0:=Lh a5;clear a5 e0 a7 b1 f0 b6;obtain ⟨l0,bC⟩:=cY (aT r);rw [←bC] at a0 s a;clear bC;(repeat revert K);refine vS ?_;intro K hK;refine cP [0,8,9] fun f=>?_;refine wp_loop_ghost_k (Cb x c w v l0 tg) l0.length ⟨f,v5,l0,0,[],a3,rfl,a0.o,d2.o,rfl,rfl,fun h=>absurd h (by decide),by simp⟩ ?_;rintro k _ w6 ⟨f,v6,aA,b0,m,e6,rfl,h6,b8,hk,bA,L,N⟩ J K2 hJ a4;have ⟨HJ,c8,a1,HK,P,c4⟩:=iH hJ a4 b8 hk bA L;have n:=Lh N;clear hJ a4 b8 hk bA L N;cases aA with
  | nil=>
   have A:=Lh (bS x G.o.toOk c HD.o w6 v6 e6 m h6);have i:=Lh (show vL x.o rest=.error (cE x.o.fails) by rw [a.o,P.o];rfl);clear h6;revert K;refine vg ?_;intro K hK K hK K hK K hK;refine A.o.mono ?_;rintro e7 w7 ⟨rfl,v7,u,y,z⟩;have T:=Lh (a1.o.s0 z y);obtain ⟨t1,u1,Z⟩:=u.err.iface;have HE:=Lh u;have hc:=u.dec.cell;have hf:=u.dec.frozen;have HU:=Lh Z;clear u z y A;(repeat revert K);refine vS ?_;intro K hK K hK K hK
   ((refine cP [0] fun f=>?_);go_quiet (fail);((repeat revert K);refine vg ?_;intro K hK K hK);refine Qk [2,3] fun f=>?_)
   exact HQ.o f _ _ _ (lF.o ⟨v7,T.o.drawn _,by rw [i.o];exact ⟨rfl,HU.o.symm,HE.o.drewN _⟩⟩ (by rw [i.o];exact aZ _))
  | cons b r6=>
   have A:=Lh (bO x G.o.toOk c HD.o w6 v6 b r6 e6 m h6);clear h6;revert K;refine vg ?_;intro K hK K hK K hK K hK;refine A.o.mono ?_;rintro e7 w7 ⟨rfl,v7,h7,b2,y,z,f1⟩;have T:=Lh (a1.o.s0 z y);have O:m.length≤50000000000000:=by have:=n.o;have:=s.o;simp at *;omega
   have c2:=Lh (gJ x G.o.toOk c w7 v7 r6 none m h7 b O);have dI:=Lh b2;clear h7 b2 y z f1 A O;(repeat revert K);refine vS ?_;intro K hK K hK K hK;refine c2.o.mono ?_;rintro e8 w8 ⟨rfl,v8,⟨h8,b3,b9⟩,_⟩;have U:=Lh (T.o.trans b9);have B:=Lh h8;have dT:=Lh (b3.trans dI.o);clear h8 b3 b9 c2;have d8:(((b0.toNat:Int)==63)=false∧b0≠63)∨(((b0.toNat:Int)==63)=true∧b0=63∧((b.toNat:Int)==62)=false∧b≠62)∨(((b0.toNat:Int)==63)=true∧b0=63∧((b.toNat:Int)==62)=true∧b=62):=by
    by_cases h0:b0=63
    ·subst h0;by_cases h1:b=62
     ·subst h1;exact aW (aW ⟨rfl,rfl,rfl,rfl⟩)
     ·exact aW (aH ⟨rfl,rfl,fL h1 rfl,h1⟩)
    ·exact aH ⟨fL h0 rfl,h0⟩
   rcases d8 with ⟨c0,c0'⟩|⟨c0,c0',c1,c1'⟩|⟨c0,c0',c1,c1'⟩;case inr.inr=>
    have d6:1≤m.length:=c4.o c0';subst c1';have b4:m++[62]≠[]:=by simp
    obtain ⟨g,V,hv,a8,bL,d7,_,_,_⟩:=B.o.bf.bytes b4;have W:=Lh (mX x c w8 v8 r6 none _ B.o);have D:(m++[(62:UInt8)]).length=m.length+1:=by simp
    obtain ⟨d,hd⟩:=cY (m.take (m.length-1));have d9:d.length=m.length-1:=by rw [hd,qQ];omega
    have M:bN w8 g 0 d:=by
     intro j hj;rw [a8 j (by rw [D];omega),hd];simp only [sR,List.getElem?_take];rw [aV (by omega),List.getElem?_append_left (by omega)]
    have i:=Lh (show vL x.o rest=pF x.o tg d r6 by
     rw [a.o,P.o];unfold gH;rw [aV ⟨c0',rfl⟩,hd])
    rw [hv,D] at W;rw [D] at bL;have ⟨HV,c5⟩:=cN hv M;have hL:m.length=d.length+1:=by omega
    have l:=Lh (show d.length≤1000000000 by have:=n.o;have:=s.o;simp only [gN] at *;omega);rw [hL] at W bL;have f3:IntKind.i64.wrap ((d.length:Int)+1+1-2)=(d.length:Int):=by rw [IntKind.wrap_i64];have:=l.o;omega
    have e4:IntKind.i64.wrap (d.length:Int)=(d.length:Int):=by rw [IntKind.wrap_i64];have:=l.o;omega
    have f7:(0:Int)≤(d.length:Int):=by omega
    have l1:(d.length:Int)≤(V:Int):=by omega
    have l2:d.length≤V:=by omega
    have ⟨c9,c6⟩:=cN l2 d7;clear b4 hv a8 M D hd d9 hL d6 c0';(repeat revert K);refine vS ?_;intro K hK K hK;refine W.o.mono ?_;rintro e9 w9 ⟨rfl,kk,rfl⟩;go_simp;(repeat revert K);refine vT 54 ?_;refine cP [0,8,10] fun f=>?_;refine bB (ZA x G.o c3.o aC.o c (w8.drewN kk) v8 r6 _ (B.o.drewN G.o.toOk kk) dT.o tg d g V c5.o l.o c9.o c6.o _ HV.o _ ?_ f) (by kernel_rfl);intro f w' t e hP;obtain ⟨⟨v',d5,C⟩,d4⟩:=hP;refine HQ.o f w' t e ⟨⟨v',(U.o.drawn kk).trans d5,?_⟩,fun k hk=>d4 k (by rw [←i.o];exact hk)⟩;rw [i.o];have f4:=(U.o.drawn kk).mod.size;cases Y:pF x.o tg d r6 with
    | error k=>rw [Y] at C;exact C
    | ok q=>
     obtain ⟨tk,r9⟩:=q;rw [Y] at C;obtain ⟨q1,e',b',q2,q3,q4⟩:=C;refine ⟨q1,e',b',q2,?_,q4⟩;unfold pF at Y;split at Y
     ·cases Y
     ·simp only [bT,bR] at Y;obtain ⟨rfl,rfl⟩:=Y;exact q3
   all_goals
    have c7:=Lh (show ¬ (b0=63∧b=62) by first|exact fun hh=>c0' hh.1|exact fun hh=>c1' hh.2);(repeat revert K);refine vS ?_;intro K hK;refine Kk [0,8,9] fun f=>?_;refine c8.o _ _ ⟨r6.length,by rw [HK.o];simp,HJ.o _ _ _ ⟨f,v8,r6,b,m++[b],none,rfl,B.o,U.o,rfl,?_,fun _=>by simp,?_⟩⟩
    ·rw [P.o];conv=>lhs;unfold gH
     rw [aN c7.o]
    ·have:=n.o;simp at this ⊢;omega
end Go.Proofs.YthapcchcahnfaaaGreatDoor
