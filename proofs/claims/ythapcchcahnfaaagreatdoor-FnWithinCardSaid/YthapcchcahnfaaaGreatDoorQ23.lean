/- Part of the proof that laws.FnWithin returns true for every argument. No conditions. -/
import Derived.Test.YthapcchcahnfaaaGreatDoorQ21
import Derived.Lib.OthersKept
import Derived.Lib.TrimAscii
import Derived.Test.YthapcchcahnfaaaGreatDoorQ22
set_option linter.all false
set_option maxHeartbeats 8000000
set_option maxRecDepth 100000
namespace Go.Proofs.YthapcchcahnfaaaGreatDoor
open Go Go.RowKit Go.Proofs.Tryz
def YF:List Int:=(List.range 128).map fun (c:Nat)=>if 65≤c∧c≤90 then (c:Int)+32 else if c=107 then 8490 else if c=115 then 383 else if 97≤c∧c≤122 then (c:Int)-32 else c
structure kL (w:World):Prop where
 at':∀ i,i<128→w.cell? ⟨3,i,none⟩=some (.int .u16 (YF.getD i 0))
 lt:3<w.heap.size
theorem kL.below {w w':World} (h:kL w) (a:Below w.heap.size w w'):kL w':=
 ⟨fun i b=>by rw [a.cell (p:=⟨_,i,none⟩) h.lt];exact h.at' i b,rS h.lt a.size⟩
theorem kL.drewN {w:World} (h:kL w) (k:Nat):kL (w.drewN k):=⟨h.at',h.lt⟩
theorem fB (n:Nat) (d:n<128) (m:Nat) (a:YF.getD n 0=m) (c:m≤10000) (w:World) (h:kL w) :
  Calls prog 108 #[.int .i32 n] w fun e w'=>e=.returned (.int .i32 m)∧∃ k,w'=w.drewN k:=by
 have b:=h.at' n d;rw [a] at b;have i:(n:Int)<128:=by omega
 have j:¬ ((n:Int)<0):=by omega
 have g:(0:Int)≤(n:Int):=by omega
 have l:¬ ((1114111:Int)<(n:Int)):=by omega
 have o:IntKind.i64.wrap (n:Int)=(n:Int):=by rw [IntKind.wrap_i64];omega
 have p:IntKind.i32.wrap (m:Int)=(m:Int):=by rw [IntKind.wrap_i32];omega
 clear h a;refine eT 80 func108 [_] fun f=>?_;simp only [aF];refine vg ?_;intro K hK;refine cX ?_;exact ⟨rfl,0,rfl⟩
abbrev eX:Bs:=[117,116,102,45,56]
theorem EB:∀ n,n<256→∀ y∈eX,Lib.foldEq (UInt8.ofNat n) y=(eQ (UInt8.ofNat n)==y):=by decide +kernel
theorem B8 (x y:UInt8) (a:y∈eX):Lib.foldEq x y=(eQ x==y):=by
 have:=EB x.toNat x.toNat_lt y a;simpa using this
theorem rY:∀ (s t:Bs),(∀ y∈t,y∈eX)→Lib.equalFold s t=(s.map eQ==t)
 | [],[],_=>rfl
 | [],_::_,_=>by rw [Lib.equalFold_end _ _ (aG rfl)];simp
 | _::_,[],_=>by rw [Lib.equalFold_end _ _ (aX rfl)];simp
 | x::s,y::t,h=>by
  have a:=B8 x y (h y (by simp));have c:=rY s t (fun z d=>h z (by simp [d]));cases b:Lib.foldEq x y with
  | true=>
   rw [Lib.equalFold_yes _ _ _ _ b,c];rw [b] at a;have:eQ x=y:=by simpa using a.symm
   simp [this]
  | false=>
   rw [Lib.equalFold_no _ _ _ _ b];rw [b] at a;have:eQ x≠y:=by simpa using a.symm
   simp [this]
theorem Y0:∀ n,n<256→∀ m∈[117,116,102,45,56],decide ((128:Int)≤bits .or .u8 ((n:Nat):Int) ((m:Nat):Int))=decide (128≤n):=by decide +kernel
theorem WS (c d:UInt8) (a:d∈eX):decide ((128:Int)≤bits .or .u8 (c.toNat:Int) (d.toNat:Int))=decide (128≤c.toNat):=by
 refine Y0 c.toNat c.toNat_lt d.toNat ?_;simp only [eX,l6,zF,or_false] at a;rcases a with rfl|rfl|rfl|rfl|rfl<;>decide
theorem OY {P:Program} {c:Code} {Q:Exit→Act→World→Prop} {a:Act} {w:World} (h:(Code.scope c).wp P Q a w):(Code.scope c).wp P Q a w:=h
noncomputable def OZ (n:Nat):Code:=((Tryz.f74.body).bind (Code.partAt n)).getD .skip
def Y1 (s:Bs) (N:Nat) (w0:World) (k:Nat) (a:Act) (w:World):Prop:=
 ∃ f i,a=fr 123 f [(0,aB s),(1,aB eX),(5,.int .i64 (i:Nat)),(6,.int .i64 N)]∧w0=w∧i≤N∧k=N-i∧∀ j,j<i→(s.getD j 0).toNat<128
def Ce (s:Bs) (w0:World) (k:Nat) (a:Act) (w:World):Prop:=
 k=0∧∃ f i,a=fr 123 f [(0,aB s),(1,aB eX),(5,.int .i64 (i:Nat))]∧w0=w∧i<s.length∧i<5∧128≤(s.getD i 0).toNat
theorem B9 (s:Bs) (hs:s.length≤1000000000) (j0:Nat) (a9:j0<s.length) (a8:128≤(s.getD j0 0).toNat) (w:World) (a0:kL w) (hu:Lib.Utf8Tabs 6 7 w) :
  Calls prog 74 #[aB s,aB eX] w fun e w'=>e=.returned (.bool false)∧Below w.heap.size w w':=by
 have ⟨cT,HU,c1,c2,HS⟩:=pI a0 hu a8 a9 hs;obtain ⟨N,hN⟩:∃ N:Nat,min (s.length:Int) 5=(N:Int):=⟨min s.length 5,by omega⟩;have HN:=Lh hN;clear a0 hu a8 a9 hs;refine eT 123 func74 [_,_] fun f=>?_;simp only [aF];(repeat ((fail_if_success with_reducible refine OY ?_);(first|(with_reducible first|refine zA fun K hK=>?_|refine zB ?_|refine zC ?_)|((with_reducible first|refine zD rfl fun K hK=>?_|refine zE fun K hK=>?_);go_simp)|(with_reducible first|((repeat ((fail_if_success refine hK _ _ ?_);clear hK K));refine hK _ _ ?_;clear hK K)|refine zt ?_|refine zf ?_|refine zG ?_|refine zR ?_|refine zK ?_|refine zL ?_|refine zN ?_|refine zS ?_)|simp only [Exit.then,Exit.inBlock,Exit.noGoto,↓reduceIte,Nat.reduceEqDiff]|simp only [undef,reduceCtorEq,↓reduceIte])));refine cM [0,1] fun f=>?_;refine oL (rest:=.seq .skip (OZ 14)) 0 (Ce s w) (by kernel_rfl) ?_ ?_
 ·refine vg ?_;intro K hK;refine cM [0,1,5,6] fun f=>?_;refine wp_loop_ghost_k (Y1 s N w) N ⟨f,0,rfl,rfl,kW _,rfl,fun j hj=>by omega⟩ ?_;rintro k _ w6 ⟨f,i,rfl,T,hi,hk,A⟩ J K2 hJ aA;subst T;have ⟨HJ,W,HK,o⟩:=kY hJ aA hk A;clear hJ aA hk A;by_cases bA:i<N
  ·have aC:N≤5∧N≤s.length:=by have:=HN.o;omega
   obtain ⟨aC,dI⟩:=aC;have F:(i:Int)<(N:Int):=by omega
   have h0:(0:Int)≤(i:Int):=by omega
   have h2:(i:Int)<(s.length:Int):=by omega
   have h3:(i:Int)<5:=by omega
   have Y:i<5:=by omega
   have c3:i<s.length:=by omega
   have Q:IntKind.i64.wrap ((i:Int)+1)=((i+1:Nat):Int):=by rw [IntKind.wrap_i64];omega
   obtain ⟨c,V⟩:=cR (s.getD i 0);obtain ⟨d,hd⟩:=cR (eX.getD i 0);have d0:∀ h,(⟨s.toArray⟩:ByteArray)[i]'h=c:=by intro h;rw [V];exact YE s i h
   have d1:∀ h,(⟨eX.toArray⟩:ByteArray)[i]'h=d:=by intro h;rw [hd];exact YE eX i h
   have g:d∈eX:=by rw [hd];rw [rI,List.getElem?_eq_getElem (show i<eX.length from Y)];exact List.getElem_mem _
   have y:=WS c d g;have ⟨HC,v⟩:=cH V g;by_cases m:128≤c.toNat
   ·have B:decide ((128:Int)≤bits .or .u8 (c.toNat:Int) (d.toNat:Int))=true:=by rw [y];simpa using m
    have u:=Lh m;clear y hd g m V;revert K;refine vg ?_;intro K hK K hK K hK;refine wp_goto ?_;(try simp only [Exit.then,Exit.inBlock])
    refine Qk [0,1,5] fun f=>?_;exact ⟨rfl,0,rfl,f,i,rfl,rfl,c3,Y,by rw [←HC.o];exact u.o⟩
   ·have B:decide ((128:Int)≤bits .or .u8 (c.toNat:Int) (d.toNat:Int))=false:=by rw [y];simpa using m
    have c8:¬ ((128:Int)≤bits .or .u8 (c.toNat:Int) (d.toNat:Int)):=by simpa using B
    have u:=Lh m;have a4:d.toNat<128:=by
     have:∀ z∈eX,z.toNat<128:=by decide
     exact this d g
    clear y hd g V;by_cases n:d=c
    ·subst n;clear m;revert K;refine vg ?_;intro K hK;refine Kk [0,1,5,6] fun f=>?_;refine W.o _ _ ⟨N-(i+1),by rw [HK.o];omega,HJ.o _ _ _ ⟨f,i+1,rfl,rfl,bA,rfl,fun j hj=>?_⟩⟩;by_cases L:j=i
     ·subst L;rw [←HC.o];have:=u.o;omega
     ·exact o.o j (by omega)
    ·have t1:((d.toNat:Int)==(c.toNat:Int))=false:=eZ n rfl;have t2:((c.toNat:Int)==(d.toNat:Int))=false:=eZ (fun h=>n h.symm) rfl;by_cases l:Lib.foldEq c d=true
     ·
      have c5:(65≤c.toNat∧c.toNat≤90∧d.toNat=c.toNat+32)∨(65≤d.toNat∧d.toNat≤90∧c.toNat=d.toNat+32):=by
       have h:=of_decide_eq_true l;rcases h with h|h|h
       ·exact absurd (UInt8.toNat_inj.1 h.symm) n
       ·exact aG h
       ·exact aX h
      rcases c5 with ⟨a1,a2,a3⟩|⟨a1,a2,a3⟩
      ·have b1:¬ ((d.toNat:Int)<(c.toNat:Int)):=by omega
       have X:(65:Int)≤(c.toNat:Int):=by omega
       have b3:(c.toNat:Int)≤90:=by omega
       have b4:IntKind.u8.wrap ((c.toNat:Int)+97)=(c.toNat:Int)+97:=by rw [IntKind.wrap_u8];omega
       have b5:IntKind.u8.wrap ((c.toNat:Int)+97-65)=(d.toNat:Int):=by rw [IntKind.wrap_u8];omega
       clear m n l a1 a2 a3;revert K;refine vg ?_;intro K hK;refine Kk [0,1,5,6] fun f=>?_;refine W.o _ _ ⟨N-(i+1),by rw [HK.o];omega,HJ.o _ _ _ ⟨f,i+1,rfl,rfl,bA,rfl,fun j hj=>?_⟩⟩;by_cases L:j=i
       ·subst L;rw [←HC.o];have:=u.o;omega
       ·exact o.o j (by omega)
      ·exfalso;have Z:∀ z∈eX,¬ (65≤z.toNat∧z.toNat≤90):=by decide
       exact Z d v.o ⟨a1,a2⟩
     ·have M:¬ (65≤c.toNat∧c.toNat≤90∧d.toNat=c.toNat+32):=fun h=>l (decide_eq_true (aX (aG h)));have a7:¬ (65≤d.toNat∧d.toNat≤90):=by
       have Z:∀ z∈eX,¬ (65≤z.toNat∧z.toNat≤90):=by decide
       exact Z d v.o
      have bC:c.toNat≠d.toNat:=fun h=>n (UInt8.toNat_inj.1 h.symm)
      have c6:((c.toNat:Int)<(d.toNat:Int)∧¬ ((d.toNat:Int)<(c.toNat:Int))∧¬ ((65:Int)≤(c.toNat:Int))) ∨
        ((c.toNat:Int)<(d.toNat:Int)∧¬ ((d.toNat:Int)<(c.toNat:Int))∧(65:Int)≤(c.toNat:Int)∧¬ ((c.toNat:Int)≤90)) ∨
        ((c.toNat:Int)<(d.toNat:Int)∧¬ ((d.toNat:Int)<(c.toNat:Int))∧(65:Int)≤(c.toNat:Int)∧(c.toNat:Int)≤90) ∨
        ((d.toNat:Int)<(c.toNat:Int)∧¬ ((65:Int)≤(d.toNat:Int)))∨((d.toNat:Int)<(c.toNat:Int)∧(65:Int)≤(d.toNat:Int)∧¬ ((d.toNat:Int)≤90)):=by omega
      rcases c6 with ⟨b1,X,b3⟩|⟨b1,X,b3,b4⟩|⟨b1,X,b3,b4⟩|⟨b1,X⟩|⟨b1,X,b3⟩;case inr.inr.inl=>
       have b5:IntKind.u8.wrap ((c.toNat:Int)+97)=(c.toNat:Int)+97:=by rw [IntKind.wrap_u8];omega
       have b6:IntKind.u8.wrap ((c.toNat:Int)+97-65)=(c.toNat:Int)+32:=by rw [IntKind.wrap_u8];omega
       have b7:((d.toNat:Int)==(c.toNat:Int)+32)=false:=by rw [m6];intro h;exact M ⟨by omega,by omega,by omega⟩
       clear m n l M a7 bC;revert K;refine vg ?_;intro K hK K hK;(try simp only [Exit.jump])
       refine cX ?_;exact ⟨rfl,Below.refl _ _⟩
      all_goals
       clear m n l M a7 bC;revert K;refine vg ?_;intro K hK K hK;(try simp only [Exit.jump])
       refine cX ?_;exact ⟨rfl,Below.refl _ _⟩
  ·have c4:i=N:=by omega
   subst c4;have F:¬ ((i:Int)<(i:Int)):=by omega
   have c7:((s.length:Int)==5)=false:=by
    rw [m6];intro h5;have h2:=HN.o;have h3:=o.o j0 (by have:=c2.o;omega);have:=c1.o;omega
   revert K;refine vg ?_;intro K hK;(try simp only [Exit.jump])
   refine cX ?_;exact ⟨rfl,Below.refl _ _⟩
 ·rintro k _ w6 ⟨rfl,f,i,rfl,T,hi,dT,V⟩;subst T;have h0:(0:Int)≤(i:Int):=by omega
  have F:(i:Int)≤(s.length:Int):=by omega
  have h2:(i:Int)≤5:=by omega
  have C:=qA s i;have r:(⟨eX.toArray⟩:ByteArray).extract i 5=⟨(eX.drop i).toArray⟩:=qA eX i;obtain ⟨c,H⟩:=cR (s.getD i 0);obtain ⟨d,a5⟩:=cR (eX.getD i 0);have b8:s.drop i=c::s.drop (i+1):=by rw [H,CZ hi];simp [hi]
  have O:eX.drop i=d::eX.drop (i+1):=by
   rw [a5];have:i=0∨i=1∨i=2∨i=3∨i=4:=by omega
   rcases this with rfl|rfl|rfl|rfl|rfl<;>rfl
  rw [←H] at V;have g:d∈eX:=by
   have:d∈eX.drop i:=by rw [O];simp
   exact List.mem_of_mem_drop this
  rw [b8] at C;rw [O] at r;obtain ⟨S,hS⟩:=cR (c::s.drop (i+1));obtain ⟨U,hU⟩:=cR (d::eX.drop (i+1));rw [←hS] at C;rw [←hU] at r;have Q:(w.iter ⟨S.toArray⟩ 0).heap[w.heap.size]?=some (.stringIter ⟨S.toArray⟩ 0):=World.iter_heap _ _ _;have b0:=Lib.run_next_any_at (P:=prog) (w.iter ⟨S.toArray⟩ 0) w.heap.size ⟨S.toArray⟩ 0 0 Q (by rw [hS];simp [ByteArray.size]);have q:128≤(Utf8.decode ⟨S.toArray⟩ 0).1∧(Utf8.decode ⟨S.toArray⟩ 0).1≤1114111:=by
   have hg:((⟨S.toArray⟩:ByteArray).get! 0).toNat=c.toNat:=by rw [hS];rfl
   rw [Lib.decode_at,hg];unfold Lib.decodeN;rw [aM (by omega)];repeat' split
   all_goals (simp only [];omega)
  obtain ⟨R,hR⟩:=cR ((Utf8.decode ⟨S.toArray⟩ 0).1);rw [←hR] at b0 q;have a6:Lib.decodeGo ⟨U.toArray⟩=(d.toNat,1):=by
   have a4:d.toNat<128:=by
    have Z:∀ z∈eX,z.toNat<128:=by decide
    exact Z d g
   have h8:=Lib.decodeL_ascii d (eX.drop (i+1)) a4;rw [hU];exact h8
  have x:Below w.heap.size w ((w.iter ⟨S.toArray⟩ 0).iterAt w.heap.size ⟨S.toArray⟩ (0+(Utf8.decode ⟨S.toArray⟩ 0).2)):=by
   have F:Below w.heap.size w (w.iter ⟨S.toArray⟩ 0):=(Below.refl _ w).alloc (dC _) _;exact ⟨F.os,F.tape,F.output,by simp [World.iterAt,World.iter],fun k hk=>by
    rw [←F.block k hk];simp only [World.iterAt]
    first
     | (rw [Array.getElem?_setIfInBounds];rw [aM (by omega)])
     | (rw [Array.getElem?_modify];rw [aM (by omega)])⟩
  obtain ⟨w2,b9⟩:=cR ((w.iter ⟨S.toArray⟩ 0).iterAt w.heap.size ⟨S.toArray⟩ (0+(Utf8.decode ⟨S.toArray⟩ 0).2));rw [←b9] at b0 x;have I:=Lh (Tryz.utf8_DecodeRuneInString ⟨U.toArray⟩ w2 (Utf8Tabs_below HU.o x));rw [a6] at I;have ⟨E,v⟩:=cH x g;have d4:((U.length:Int)==0)=false:=by rw [hU];simp;omega
  have c9:(1:Int)≤(U.length:Int):=by rw [hU];simp;omega
  have d2:(128:Int)≤(R:Int):=by omega
  have d3:¬ ((R:Int)<128):=by omega
  clear Q x a6 b9 hR hS hU b8 O H a5 g q;unfold OZ;conv=>arg 2;arg 2;whnf
  refine vg ?_;intro K hK;refine wp_loop_once ?_;revert K;refine vg ?_;intro K hK K hK K hK;refine I.o.mono ?_;rintro e3 D ⟨rfl,G⟩;have p:=Lh (E.o.trans (G.mono E.o.size));have b:=Lh ((cT.o.below E.o).below G);have g:=v.o;clear G I;simp only [eX,l6,zF,or_false] at g;rcases g with rfl|rfl|rfl|rfl|rfl;case inr.inr.inr.inl=>
   have r1:((45:Int)==(R:Int))=false:=by rw [m6];omega
   have r2:(45:Int)<(R:Int):=by omega
   have a:=Lh (fB 45 (by decide) 45 (by decide +kernel) (by decide) D b.o);(repeat revert K);refine vS ?_;intro K hK K hK K hK;refine a.o.mono ?_;rintro e4 w4 ⟨rfl,t,rfl⟩;clear a;(repeat revert K);refine vS ?_;intro K hK K hK;refine wp_loop_once ?_;(repeat revert K);refine vg ?_;intro K hK;(try simp only [Exit.jump])
   refine cX ?_;exact ⟨rfl,cL p.o _⟩
  case inr.inr.inr.inr=>
   have r1:((56:Int)==(R:Int))=false:=by rw [m6];omega
   have r2:(56:Int)<(R:Int):=by omega
   have a:=Lh (fB 56 (by decide) 56 (by decide +kernel) (by decide) D b.o);(repeat revert K);refine vS ?_;intro K hK K hK K hK;refine a.o.mono ?_;rintro e4 w4 ⟨rfl,t,rfl⟩;clear a;(repeat revert K);refine vS ?_;intro K hK K hK;refine wp_loop_once ?_;(repeat revert K);refine vg ?_;intro K hK;(try simp only [Exit.jump])
   refine cX ?_;exact ⟨rfl,cL p.o _⟩
  case inl=>
   have r1:((117:Int)==(R:Int))=false:=by rw [m6];omega
   have r2:(117:Int)<(R:Int):=by omega
   have r3:(85:Int)<(R:Int):=by omega
   have a:=Lh (fB 117 (by decide) 85 (by decide +kernel) (by decide) D b.o);(repeat revert K);refine vS ?_;intro K hK K hK K hK;refine a.o.mono ?_;rintro e4 w4 ⟨rfl,t,rfl⟩;have a:=Lh (fB 85 (by decide) 117 (by decide +kernel) (by decide) (D.drewN t) (b.o.drewN t));(repeat revert K);refine vS ?_;intro K hK K hK;refine wp_loop_rounds 2 ?_;rw [rounds_succ];(repeat revert K);refine vg ?_;intro K hK K hK K hK;refine a.o.mono ?_;rintro e5 w5 ⟨rfl,k5,rfl⟩;(repeat revert K);refine vS ?_;intro K hK K hK;rw [rounds_succ];(repeat revert K);refine vg ?_;intro K hK;(try simp only [Exit.jump])
   refine cX ?_;exact ⟨rfl,cL p.o _⟩
  case inr.inl=>
   have r1:((116:Int)==(R:Int))=false:=by rw [m6];omega
   have r2:(116:Int)<(R:Int):=by omega
   have r3:(84:Int)<(R:Int):=by omega
   have a:=Lh (fB 116 (by decide) 84 (by decide +kernel) (by decide) D b.o);(repeat revert K);refine vS ?_;intro K hK K hK K hK;refine a.o.mono ?_;rintro e4 w4 ⟨rfl,t,rfl⟩;have a:=Lh (fB 84 (by decide) 116 (by decide +kernel) (by decide) (D.drewN t) (b.o.drewN t));(repeat revert K);refine vS ?_;intro K hK K hK;refine wp_loop_rounds 2 ?_;rw [rounds_succ];(repeat revert K);refine vg ?_;intro K hK K hK K hK;refine a.o.mono ?_;rintro e5 w5 ⟨rfl,k5,rfl⟩;(repeat revert K);refine vS ?_;intro K hK K hK;rw [rounds_succ];(repeat revert K);refine vg ?_;intro K hK;(try simp only [Exit.jump])
   refine cX ?_;exact ⟨rfl,cL p.o _⟩
  case inr.inr.inl=>
   have r1:((102:Int)==(R:Int))=false:=by rw [m6];omega
   have r2:(102:Int)<(R:Int):=by omega
   have r3:(70:Int)<(R:Int):=by omega
   have a:=Lh (fB 102 (by decide) 70 (by decide +kernel) (by decide) D b.o);(repeat revert K);refine vS ?_;intro K hK K hK K hK;refine a.o.mono ?_;rintro e4 w4 ⟨rfl,t,rfl⟩;have a:=Lh (fB 70 (by decide) 102 (by decide +kernel) (by decide) (D.drewN t) (b.o.drewN t));(repeat revert K);refine vS ?_;intro K hK K hK;refine wp_loop_rounds 2 ?_;rw [rounds_succ];(repeat revert K);refine vg ?_;intro K hK K hK K hK;refine a.o.mono ?_;rintro e5 w5 ⟨rfl,k5,rfl⟩;(repeat revert K);refine vS ?_;intro K hK K hK;rw [rounds_succ];(repeat revert K);refine vg ?_;intro K hK;(try simp only [Exit.jump])
   refine cX ?_;exact ⟨rfl,cL p.o _⟩
theorem LJ (s:Bs) (j:Nat) (c:j<s.length) (h:128≤(s.getD j 0).toNat):pP s=false:=by
 unfold pP;rw [m6];intro i;have a:=congrArg (fun l=>l[j]?) i;simp only [List.getElem?_map,List.getElem?_eq_getElem c,Option.map_some] at a;have b:s[j]=s.getD j 0:=by simp [c]
 have d:eQ s[j]∈eX:=by
  have:=List.mem_of_getElem? a.symm;exact this
 have e:eQ s[j]=s[j]:=by
  unfold eQ;rw [aM];simp only [FO,IN,UInt8.le_iff_toNat_le];rintro ⟨_,f⟩;have:(90:UInt8).toNat=90:=rfl;rw [b] at f;omega
 rw [e,b] at d;have g:∀ z∈eX,z.toNat<128:=by decide
 have:=g _ d;omega
theorem yJ (s:Bs) (m:s.length≤1000000000) (w:World) (f:kL w) (n:Lib.Utf8Tabs 6 7 w) :
  Calls prog 74 #[aB s,aB eX] w fun e w'=>e=.returned (.bool (pP s))∧Below w.heap.size w w':=by
 by_cases h:∃ j,j<s.length∧128≤(s.getD j 0).toNat
 ·obtain ⟨j,c,g⟩:=h;rw [LJ s j c g];exact B9 s m j c g w f n
 ·have i:=Tryz.strings_EqualFold ⟨s.toArray⟩ ⟨eX.toArray⟩ w (by simp [ByteArray.size];omega) (fun j b a=>by
   rcases Nat.lt_or_ge b.toNat 128 with d|d
   ·exact d
   ·obtain ⟨c,o⟩:=FP.1 a;exact absurd ⟨j,c,by rw [rI,a];exact d⟩ h) (fun j b a=>by
   have l:b∈eX:=List.mem_of_getElem? a;have k:∀ z∈eX,z.toNat<128:=by decide
   exact k b l)
  refine i.mono ?_;rintro e w' ⟨rfl,rfl⟩;refine ⟨?_,Below.refl _ _⟩;have:=rY s eX (fun _ h=>h);show Ending.returned (.bool (Lib.equalFold s eX))=_;rw [this];rfl
abbrev uO:Bs:=[120,109,108]
theorem EC (m:ByteArray) (w:World):Calls prog 73 #[.string m] w fun e w'=>∃ a:Addr,e=.returned (m7 a)∧w.heap.size≤a.block∧Below w.heap.size w w'∧∃ cs t,aJ w' a.block cs t:=by
 refine eT 7 func73 [_] fun f=>?_;simp only [aF];refine vg ?_;refine cX ?_;exact ⟨⟨w.heap.size,0,none⟩,rfl,dC _,(Below.refl _ w).alloc (dC _) _,_,_,aJ.new w _ _⟩
theorem cD.oth {x:Cx} (g:x.Ok) {c:DC} {w w':World} {v:DV} {rest:Bs} {e:Option EK} {d:Bs} (h:cD x c w v rest e d) (b:Below w.heap.size w w') (a:Addr) (f:w.heap.size ≤ a.block) :
    bU w' x.d c v∧iX x c (w'.setCell ⟨x.d,20,none⟩ (m7 a)) { v with err:=m7 a } .other∧cU x w v (w'.setCell ⟨x.d,20,none⟩ (m7 a)) { v with err:=m7 a }:=
  ⟨aJ.mod (S:=fun _=>False) h.dec (aH b _) id,
   ⟨(aK.below h.base h.base.size (aH b (fun _=>False)) (fun _ h=>h.elim)).setCell g.d _,(show aJ _ x.d _ _ from aJ.mod (S:=fun _=>False) h.dec (aH b _) id).set 20 _,⟨a,rfl,gA h.base.size f⟩⟩,
   (cU.refl x w v).syn b _⟩
def jT (w:World) (e:Value) (k:EK):Prop:=k=.other→∃ a cs t,e=m7 a∧aJ w a.block cs t
theorem jT.no {w:World} {e:Value} {k:EK} (h:k≠.other):jT w e k:=fun a=>absurd a h
def iI (x:Cx) (c:DC) (w:World) (v:DV) (R:Except EK (aU×Bs)) (t e:Value) (w':World):Prop:=kK x c w v R t e w'∧∀ k,R=.error k→jT w' e k
theorem kK.o {x:Cx} {c:DC} {w:World} {v:DV} {R:Except EK (aU×Bs)} {t e:Value} {w':World} (h:kK x c w v R t e w') (d:sN R):iI x c w v R t e w':=
 ⟨h,fun k b=>jT.no (fun a=>by subst a;exact d b)⟩
def oM (o:cP) (a d r:Bs):Except EK (aU×Bs):=if a=uO∧BF d=false then .error .other else .ok (.proc a d,r)
theorem rO {s p:Bs} (h:¬ s=p):(s==p)=false∧(s != p)=true:=by
 have a:(s==p)=false:=by simpa using h
 exact ⟨a,by simp [h]⟩
theorem ED (c:UInt8):∀ (l r:Bs),iG c l=some r→r.length≤l.length
 | [],r,h=>by unfold iG at h;cases h
 | b::l,r,h=>by
  unfold iG at h;split at h
  ·simp only [kQ] at h;subst h;simp
  ·rw [Option.map_eq_some_iff] at h;obtain ⟨q,a,rfl⟩:=h;have:=ED c l q a;simp;omega
theorem GS (p:Bs):∀ (n:Nat) (s:Bs),s.length≤n→(eU p s).length≤s.length:=by
 intro n;induction n with
 | zero=>
  intro s b;have:s=[]:=tZ (by omega);subst this;rw [eU.eq_def,aT rfl];simp
 | succ n ih=>
  intro s b;rw [eU.eq_def];split
  ·simp
  ·split
   ·simp
   ·simp
   ·rename_i c t h;have a:=pO h;simp only [gF] at a;split
    ·cases d:iG c t with
     | none=>simp
     | some q=>have:=ED c t q d;simp;omega
    ·have:=ih t (by omega);omega
theorem LK (w:World):(binOp .eql 76 .nilFunc .nilFunc).run prog w=.ok (.bool true) w:=by kernel_rfl
theorem WT (x:Cx) (hx:x.All) (a2:kL x.W0) (a3:3<x.B) (c:DC) (w:World) (v:DV) (r:Bs) (b:Bs) (h:cD x c w v r none b) (a9:v.nb=-1) (G d:Bs) (g l:Nat) (X:bJ w g 0 d) (hl:d.length≤1000000000) (a5:d.length≤l) (a6:l≤9223372036854775807) (n:Nat) (W:v.bufv=.slice (some ⟨g,0,none⟩) n l)
  (Q:Exit→Act→World→Prop) (hQ:∀ f w' t e,iI x c w v (oM x.o G d r) t e w'→Q .ret (fr 731 f [(2,t),(3,e)]) w') (f:Nat→Value) :
  (dY 54).wp prog Q (fr 731 f [(0,bV x),(8,aB G),(10,.slice (some ⟨g,0,none⟩) d.length l)]) w:=by
 have ⟨HX,N,H,c1⟩:=kY hx hQ h W;have b1:=Lh (show ∀ w',Below x.B x.W0 w'→kL w' from fun w' F=>a2.below F);have b3:=Lh (fun w' (F:Below x.B x.W0 w')=>hx.toFit.tabs F);have a1:=Lh (show ∀ w',Below w.heap.size w w'→mV w' v.bufv (.slice (some ⟨g,0,none⟩) d.length l) d from fun w' F=>⟨g,l,n,rfl,W,X.below F,a5,a6⟩);have b8:=uN d w g 0 l X;have ⟨HL,b2⟩:=cH hl a9;clear hx a2 a3 hQ h X W hl a5 a6 a9
 have j:=Lh (show ∀ w',Below w.heap.size w w'→oM x.o G d r=.ok (.proc G d,r)→iI x c w v (oM x.o G d r) (VB G (.slice (some ⟨g,0,none⟩) d.length l)) .nilIface w' from
  fun w' F he=>⟨⟨v,(cU.refl x w v).below F,by rw [he];exact ⟨rfl,none,b,H.o.below HX.o.toOk F,⟨_,rfl,a1.o w' F⟩,aG rfl,b2.o⟩⟩,fun k hk=>by rw [he] at hk;cases hk⟩)
 unfold dY;conv=>arg 2;whnf
 by_cases u:G=uO
 ·subst u;have hv:=Lh (yD [118,101,114,115,105,111,110] Q9 rfl (by decide) d HL.o w);have he:=Lh (yD [101,110,99,111,100,105,110,103] MO rfl (by decide) d HL.o w);refine vg ?_;intro K hK K hK K hK;refine hv.o.mono ?_;rintro e1 w1 ⟨rfl,rfl⟩;obtain ⟨a,E⟩:=cR (eU Q9 d);obtain ⟨enc,s⟩:=cR (eU MO d);have z:=Lh (show oM x.o uO d r=if (a==[]||a==[49,46,48])&&(enc==[]||pP enc) then .ok (.proc uO d,r) else .error .other by
   unfold oM BF;rw [←E,←s];cases ((a==[]||a==[49,46,48])&&(enc==[]||pP enc))<;>simp)
  rw [←E];rw [←s] at he;have L:=Lh (show enc.length≤1000000000 by rw [s];exact gA (GS MO d.length d (dC _)) HL.o);clear E s hv b8;by_cases y:a=[]∨a=[49,46,48]
  ·have b0:(a==[]||a==[49,46,48])=true:=by
    rcases y with rfl|rfl<;>rfl
   have b4:=Lh b0;clear b0;have b7:(a=[])∨((a==[])=false∧(a != [])=true∧a=[49,46,48]):=by
    rcases y with rfl|rfl
    ·exact aG rfl
    ·exact aX ⟨rfl,rfl,rfl⟩
   clear y;rcases b7 with rfl|⟨q1,q2,rfl⟩
   all_goals
    (repeat revert K);refine vS ?_;intro K hK K hK K hK;refine he.o.mono ?_;rintro e2 w2 ⟨rfl,rfl⟩;by_cases Z:enc=[]
    ·subst Z;(repeat revert K);refine vS ?_;refine Qk [2,3] fun f=>?_;exact N.o f _ _ _ (j.o _ (Below.refl _ _) (by rw [z.o];rfl))
    ·obtain ⟨n1,n2⟩:=rO Z;by_cases aA:enc=[117,116,102,45,56]
     ·subst aA;(repeat revert K);refine vS ?_;refine Qk [2,3] fun f=>?_;exact N.o f _ _ _ (j.o _ (Below.refl _ _) (by rw [z.o];rfl))
     ·obtain ⟨n3,n4⟩:=rO aA;by_cases aC:enc=[85,84,70,45,56]
      ·subst aC;(repeat revert K);refine vS ?_;refine Qk [2,3] fun f=>?_;exact N.o f _ _ _ (j.o _ (Below.refl _ _) (by rw [z.o];rfl))
      ·obtain ⟨n5,n6⟩:=rO aC;have a7:=Lh (yJ enc L.o w2 (b1.o _ H.o.base) (b3.o _ H.o.base));have i:=Lh (show oM x.o uO d r=if pP enc then .ok (.proc uO d,r) else .error .other by rw [z.o,b4.o,n1];simp);clear Z aA aC;(repeat revert K);refine vS ?_;intro K hK K hK K hK;refine a7.o.mono ?_;rintro e3 w3 ⟨rfl,V⟩;have I:=Lh V;have Y:=(H.o.below HX.o.toOk V).dec;have b5:=Y.cell;have b9:=Y.frozen;clear V Y a7;cases a8:pP enc with
       | true=>
        (repeat revert K);refine vS ?_;refine Qk [2,3] fun f=>?_;exact N.o f _ _ _ (j.o _ I.o (by rw [i.o,a8];rfl))
       | false=>
        have D:=Lh (fun m=>EC m w3);have c2:=fun w=>LK w;(repeat revert K);refine vS ?_;intro K hK K hK K hK K hK;refine (D.o _).mono ?_;rintro e4 w4 ⟨P,rfl,U,C,R,a0,o⟩;have T:=H.o.below HX.o.toOk I.o;obtain ⟨q,A,B⟩:=T.oth HX.o.toOk C P U;have b6:=q.cell;have cT:=q.frozen;have J:=Lh A;have M:=Lh (show ∀ n,aJ ((w4.setCell ⟨x.d,20,none⟩ (m7 P)).drewN n) P.block R a0 from fun n=>aJ.mod (S:=fun k=>k=x.d) o (((aK.refl (fun k=>k=x.d) w4).setCell (p:=⟨x.d,20,none⟩) (aG rfl) _).drewN n) (fun hh=>by have h1:=T.dec.lt;omega));have O:=Lh (((cU.refl x w2 v).below I.o).trans B);clear T q A B C D b5 b9 o;(repeat revert K);refine vS ?_;intro K hK K hK K hK
        ((refine cM [0] fun f=>?_);go_quiet (fail);((repeat revert K);refine vg ?_;intro K hK K hK);refine Qk [2,3] fun f=>?_)
        exact N.o f _ _ _ ⟨⟨_,O.o.drawn _,by rw [i.o,a8];exact ⟨rfl,rfl,J.o.drewN _⟩⟩,fun _ _ _=>⟨_,_,_,rfl,M.o _⟩⟩
  ·have bA:¬ a=[]:=fun h=>y (aG h);have bC:¬ a=[49,46,48]:=fun h=>y (aX h);obtain ⟨n1,n2⟩:=rO bA;obtain ⟨n3,n4⟩:=rO bC;have i:=Lh (show oM x.o uO d r=.error .other by rw [z.o,n1,n3];rfl);have D:=Lh (fun m=>EC m w1);clear y bA bC;(repeat revert K);refine vS ?_;intro K hK K hK K hK K hK;refine (D.o _).mono ?_;rintro e4 w4 ⟨P,rfl,U,C,R,a0,o⟩;obtain ⟨q,A,B⟩:=H.o.oth HX.o.toOk C P U;have b6:=q.cell;have cT:=q.frozen;have J:=Lh A;have M:=Lh (show ∀ n,aJ ((w4.setCell ⟨x.d,20,none⟩ (m7 P)).drewN n) P.block R a0 from fun n=>aJ.mod (S:=fun k=>k=x.d) o (((aK.refl (fun k=>k=x.d) w4).setCell (p:=⟨x.d,20,none⟩) (aG rfl) _).drewN n) (fun hh=>by have h1:=H.o.dec.lt;omega));have O:=Lh B;clear q A B C D o;(repeat revert K);refine vS ?_;intro K hK K hK K hK
   ((refine cM [0] fun f=>?_);go_quiet (fail);((repeat revert K);refine vg ?_;intro K hK K hK);refine Qk [2,3] fun f=>?_)
   exact N.o f _ _ _ ⟨⟨_,O.o.drawn _,by rw [i.o];exact ⟨rfl,rfl,J.o.drewN _⟩⟩,fun _ _ _=>⟨_,_,_,rfl,M.o _⟩⟩
 ·obtain ⟨n1,n2⟩:=rO u;have i:=Lh (show oM x.o G d r=.ok (.proc G d,r) by unfold oM;rw [aM (fun h=>u h.1)]);clear u;refine vg ?_;refine Qk [2,3] fun f=>?_;exact N.o f _ _ _ (j.o _ (Below.refl _ _) i.o)
def Y2 (x:Cx) (c:DC) (w0:World) (v0:DV) (d:Bs) (g:Bs) (k:Nat) (a:Act) (w:World):Prop:=
 ∃ f v rest b0 b e,a=fr 731 f [(0,bV x),(8,aB g),(9,.int .u8 (UInt8.toNat b0))]∧cD x c w v rest e b∧cU x w0 v0 w v∧k=rest.length ∧
  fY x.o.fails d 0 []=fY x.o.fails rest b0 b∧(b0=63→1≤b.length)∧b.length+rest.length=d.length
theorem O0 {o:cP} {rest a r:Bs} (h:dV o.fails rest=.ok (a,r)):tY o rest=match fY o.fails (aQ r) 0 [] with
 | .error e=>.error e
 | .ok (inst,r2)=>oM o a inst r2:=by
 unfold tY;rw [h];rfl
theorem Y3 (x:Cx) (hx:x.All) (a7:kL x.W0) (I:3<x.B) (c:DC) (X:iF x c) (w:World) (v:DV) (rest:Bs) (e:Option EK) (a3:Bs) (h:cD x c w v rest e a3) (Q:Exit→Act→World→Prop)
  (hQ:∀ f w' t e,iI x c w v (tY x.o rest) t e w'→Q .ret (fr 731 f [(2,t),(3,e)]) w') (f:Nat→Value) :
  (dY 37).wp prog Q (fr 731 f [(0,bV x)]) w:=by
 have b7:=Lh (OA x hx.toFit c X w v rest e a3 h);have ⟨G,c5,aC,HD,HQ⟩:=pI hx a7 I X hQ;have d2:=Lh (show rest.length≤1000000000 from gA (h.suf.length_le) hx.len);clear h hx a7 I X hQ;unfold dY;conv=>arg 2;whnf
 refine vg ?_;intro K hK K hK K hK;refine b7.o.mono ?_;rintro e2 w2 ⟨v2,b9,F⟩;have S:=Lh b9;clear b9 b7;cases E:dV x.o.fails rest with
 | error k=>
  rw [E] at F;obtain ⟨rfl,f0⟩:=F;have a:=Lh (show tY x.o rest=.error k by unfold tY;rw [E]);have a0:=Lh (show sN (.error k:Except EK (aU×Bs)) from lA (D3 _ _) E);rcases f0 with u|⟨rfl,r,b,H⟩
  ·obtain ⟨t1,u1,Z⟩:=u.err.iface;have HE:=Lh u;have hc:=u.dec.cell;have hf:=u.dec.frozen;have HU:=Lh Z;clear u E;(repeat revert K);refine vS ?_;intro K hK K hK
   ((refine cM [0] fun f=>?_);go_quiet (fail);((repeat revert K);refine vg ?_;intro K hK);refine Qk [2,3] fun f=>?_)
   exact HQ.o f _ _ _ (kK.o ⟨v2,S.o.drawn _,by rw [a.o];exact ⟨rfl,HU.o.symm,HE.o.drewN _⟩⟩ (by rw [a.o];exact a0.o))
  ·have he:v2.err=.nilIface:=H.err;have hc:=H.dec.cell;have hf:=H.dec.frozen;have d5:=Lh (fun f4=>gL G.o.toOk H f4);clear H E;(repeat revert K);refine vS ?_;intro K hK K hK K hK;refine (d5.o _).mono ?_;rintro e3 w3 ⟨a9,rfl,hS⟩;have f9:=hS.dec.cell;have gB:=hS.dec.frozen;have HS:=Lh hS;clear hS hc hf he;(repeat revert K);refine vS ?_;intro K hK K hK
   ((refine cM [0] fun f=>?_);go_quiet (fail);((repeat revert K);refine vg ?_;intro K hK);refine Qk [2,3] fun f=>?_)
   exact HQ.o f _ _ _ (kK.o ⟨_,(S.o.trans HS.o.stp).drawn _,by rw [a.o];exact ⟨rfl,rfl,HS.o.err.drewN _⟩⟩ (by rw [a.o];exact a0.o))
 | ok p=>
  obtain ⟨tg,r⟩:=p;rw [E] at F;obtain ⟨rfl,H⟩:=F;have a:=Lh (O0 (o:=x.o) E);have c3:=Lh (sZ x G.o.toOk c HD.o w2 v2 r none tg H);have R:=Lh (show r.length≤1000000000 from by have:=(t7 E).2;have:=d2.o;omega);clear H E;(repeat revert K);refine vS ?_;intro K hK K hK;refine c3.o.mono ?_;rintro e3 w3 ⟨rfl,v3,a4,hP⟩;have d3:=Lh (S.o.s0 hP.mod hP.bufv);have b8:=Lh (o6 x G.o.toOk c w3 v3 (aQ r) a4 tg hP.rd);have s:=Lh (show (aQ r).length≤1000000000 from by have:=(eV r).length_le;have:=R.o;omega);clear hP c3;(repeat revert K);refine vS ?_;intro K hK K hK;refine b8.o.mono ?_;rintro e5 w5 ⟨rfl,v5,a6,e4,a8,b3,f2⟩;have d4:=Lh (d3.o.trans (cU.ofS0 b3 a8));have a1:=Lh a6;clear a6 e4 a8 b3 f2 b8;obtain ⟨l0,b1⟩:=cR (aQ r);rw [←b1] at a1 s a;clear b1;(repeat revert K);refine vS ?_;intro K hK;refine cM [0,8,9] fun f=>?_;refine wp_loop_ghost_k (Y2 x c w v l0 tg) l0.length ⟨f,v5,l0,0,[],a4,rfl,a1.o,d4.o,rfl,rfl,fun h=>absurd h (by decide),by simp⟩ ?_;rintro k _ w6 ⟨f,v6,aA,b0,m,e6,rfl,h6,cT,hk,bC,L,N⟩ J K2 hJ a5;have ⟨HJ,dI,a2,HK,P,c6⟩:=iD hJ a5 cT hk bC L;have n:=Lh N;clear hJ a5 cT hk bC L N;cases aA with
  | nil=>
   have A:=Lh (bM x G.o.toOk c HD.o w6 v6 e6 m h6);have i:=Lh (show tY x.o rest=.error (bW x.o.fails) by rw [a.o,P.o];rfl);clear h6;revert K;refine vg ?_;intro K hK K hK K hK K hK;refine A.o.mono ?_;rintro e7 w7 ⟨rfl,v7,u,y,z⟩;have T:=Lh (a2.o.s0 z y);obtain ⟨t1,u1,Z⟩:=u.err.iface;have HE:=Lh u;have hc:=u.dec.cell;have hf:=u.dec.frozen;have HU:=Lh Z;clear u z y A;(repeat revert K);refine vS ?_;intro K hK K hK K hK
   ((refine cM [0] fun f=>?_);go_quiet (fail);((repeat revert K);refine vg ?_;intro K hK K hK);refine Qk [2,3] fun f=>?_)
   exact HQ.o f _ _ _ (kK.o ⟨v7,T.o.drawn _,by rw [i.o];exact ⟨rfl,HU.o.symm,HE.o.drewN _⟩⟩ (by rw [i.o];exact aW _))
  | cons b r6=>
   have A:=Lh (bK x G.o.toOk c HD.o w6 v6 b r6 e6 m h6);clear h6;revert K;refine vg ?_;intro K hK K hK K hK K hK;refine A.o.mono ?_;rintro e7 w7 ⟨rfl,v7,h7,b4,y,z,f3⟩;have T:=Lh (a2.o.s0 z y);have O:m.length≤50000000000000:=by have:=n.o;have:=s.o;simp at *;omega
   have c4:=Lh (f5 x G.o.toOk c w7 v7 r6 none m h7 b O);have d0:=Lh b4;clear h7 b4 y z f3 A O;(repeat revert K);refine vS ?_;intro K hK K hK K hK;refine c4.o.mono ?_;rintro e8 w8 ⟨rfl,v8,⟨h8,b5,c2⟩,_⟩;have U:=Lh (T.o.trans c2);have B:=Lh h8;have d1:=Lh (b5.trans d0.o);clear h8 b5 c2 c4;have e0:(((b0.toNat:Int)==63)=false∧b0≠63)∨(((b0.toNat:Int)==63)=true∧b0=63∧((b.toNat:Int)==62)=false∧b≠62)∨(((b0.toNat:Int)==63)=true∧b0=63∧((b.toNat:Int)==62)=true∧b=62):=by
    by_cases h0:b0=63
    ·subst h0;by_cases h1:b=62
     ·subst h1;exact aX (aX ⟨rfl,rfl,rfl,rfl⟩)
     ·exact aX (aG ⟨rfl,rfl,eZ h1 rfl,h1⟩)
    ·exact aG ⟨eZ h0 rfl,h0⟩
   rcases e0 with ⟨c0,c0'⟩|⟨c0,c0',c1,c1'⟩|⟨c0,c0',c1,c1'⟩;case inr.inr=>
    have d8:1≤m.length:=c6.o c0';subst c1';have b6:m++[62]≠[]:=by simp
    obtain ⟨g,V,hv,bA,b2,d9,_,_,_⟩:=B.o.bf.bytes b6;have W:=Lh (l8 x c w8 v8 r6 none _ B.o);have D:(m++[(62:UInt8)]).length=m.length+1:=by simp
    obtain ⟨d,hd⟩:=cR (m.take (m.length-1));have e1:d.length=m.length-1:=by rw [hd,rJ];omega
    have M:bJ w8 g 0 d:=by
     intro j hj;rw [bA j (by rw [D];omega),hd];simp only [rI,List.getElem?_take];rw [aT (by omega),List.getElem?_append_left (by omega)]
    have i:=Lh (show tY x.o rest=oM x.o tg d r6 by
     rw [a.o,P.o];unfold fY;rw [aT ⟨c0',rfl⟩,hd])
    rw [hv,D] at W;rw [D] at b2;have ⟨HV,c7⟩:=cH hv M;have hL:m.length=d.length+1:=by omega
    have l:=Lh (show d.length≤1000000000 by have:=n.o;have:=s.o;simp only [gF] at *;omega);rw [hL] at W b2;have f6:IntKind.i64.wrap ((d.length:Int)+1+1-2)=(d.length:Int):=by rw [IntKind.wrap_i64];have:=l.o;omega
    have f1:IntKind.i64.wrap (d.length:Int)=(d.length:Int):=by rw [IntKind.wrap_i64];have:=l.o;omega
    have g0:(0:Int)≤(d.length:Int):=by omega
    have l1:(d.length:Int)≤(V:Int):=by omega
    have l2:d.length≤V:=by omega
    have ⟨dT,c8⟩:=cH l2 d9;clear b6 hv bA M D hd e1 hL d8 c0';(repeat revert K);refine vS ?_;intro K hK K hK;refine W.o.mono ?_;rintro e9 w9 ⟨rfl,kk,rfl⟩;go_simp;(repeat revert K);refine vT 54 ?_;refine cM [0,8,10] fun f=>?_;refine bB (WT x G.o c5.o aC.o c (w8.drewN kk) v8 r6 _ (B.o.drewN G.o.toOk kk) d1.o tg d g V c7.o l.o dT.o c8.o _ HV.o _ ?_ f) (by kernel_rfl);intro f w' t e hP;obtain ⟨⟨v',d7,C⟩,d6⟩:=hP;refine HQ.o f w' t e ⟨⟨v',(U.o.drawn kk).trans d7,?_⟩,fun k hk=>d6 k (by rw [←i.o];exact hk)⟩;rw [i.o];have f7:=(U.o.drawn kk).mod.size;cases Y:oM x.o tg d r6 with
    | error k=>rw [Y] at C;exact C
    | ok q=>
     obtain ⟨tk,r9⟩:=q;rw [Y] at C;obtain ⟨q1,e',b',q2,q3,q4⟩:=C;refine ⟨q1,e',b',q2,?_,q4⟩;unfold oM at Y;split at Y
     ·cases Y
     ·simp only [bT,bP] at Y;obtain ⟨rfl,rfl⟩:=Y;exact q3
   all_goals
    have c9:=Lh (show ¬ (b0=63∧b=62) by first|exact fun hh=>c0' hh.1|exact fun hh=>c1' hh.2);(repeat revert K);refine vS ?_;intro K hK;refine Kk [0,8,9] fun f=>?_;refine dI.o _ _ ⟨r6.length,by rw [HK.o];simp,HJ.o _ _ _ ⟨f,v8,r6,b,m++[b],none,rfl,B.o,U.o,rfl,?_,fun _=>by simp,?_⟩⟩
    ·rw [P.o];conv=>lhs;unfold fY
     rw [aM c9.o]
    ·have:=n.o;simp at this ⊢;omega
end Go.Proofs.YthapcchcahnfaaaGreatDoor
