/- Part of the proof that laws.FnSkip returns true for every argument. No conditions. -/
import Derived.Test.YthapcchcahnfaaaGreatDoorS21
import Derived.Lib.OthersKept
import Derived.Lib.TrimAscii
set_option linter.all false
set_option maxHeartbeats 8000000
set_option maxRecDepth 100000
namespace Go.Proofs.YthapcchcahnfaaaGreatDoor
open Go Go.RowKit Go.Proofs.Tryz
def X0:List Int:=(List.range 128).map fun (c:Nat)=>if 65≤c∧c≤90 then (c:Int)+32 else if c=107 then 8490 else if c=115 then 383 else if 97≤c∧c≤122 then (c:Int)-32 else c
structure kK (w:World):Prop where
 at':∀ i,i<128→w.cell? ⟨3,i,none⟩=some (.int .u16 (X0.getD i 0))
 lt:3<w.heap.size
theorem kK.below {w w':World} (h:kK w) (a:Below w.heap.size w w'):kK w':=
 ⟨fun i b=>by rw [a.cell (p:=⟨_,i,none⟩) h.lt];exact h.at' i b,pL h.lt a.size⟩
theorem kK.drewN {w:World} (h:kK w) (k:Nat):kK (w.drewN k):=⟨h.at',h.lt⟩
theorem eW (n:Nat) (d:n<128) (m:Nat) (a:X0.getD n 0=m) (c:m≤10000) (w:World) (h:kK w) :
  Calls prog 108 #[.int .i32 n] w fun e w'=>e=.returned (.int .i32 m)∧∃ k,w'=w.drewN k:=by
 have b:=h.at' n d;rw [a] at b;have i:(n:Int)<128:=by omega
 have j:¬ ((n:Int)<0):=by omega
 have g:(0:Int)≤(n:Int):=by omega
 have l:¬ ((1114111:Int)<(n:Int)):=by omega
 have o:IntKind.i64.wrap (n:Int)=(n:Int):=by rw [IntKind.wrap_i64];omega
 have p:IntKind.i32.wrap (m:Int)=(m:Int):=by rw [IntKind.wrap_i32];omega
 clear h a;refine eL 80 func108 [_] fun f=>?_;simp only [aF];refine vg ?_;intro K hK;refine cM ?_;exact ⟨rfl,0,rfl⟩
abbrev eQ:Bs:=[117,116,102,45,56]
theorem DO:∀ n,n<256→∀ y∈eQ,Lib.foldEq (UInt8.ofNat n) y=(eI (UInt8.ofNat n)==y):=by decide +kernel
theorem BY (x y:UInt8) (a:y∈eQ):Lib.foldEq x y=(eI x==y):=by
 have:=DO x.toNat x.toNat_lt y a;simpa using this
theorem rT:∀ (s t:Bs),(∀ y∈t,y∈eQ)→Lib.equalFold s t=(s.map eI==t)
 | [],[],_=>rfl
 | [],_::_,_=>by rw [Lib.equalFold_end _ _ (aG rfl)];simp
 | _::_,[],_=>by rw [Lib.equalFold_end _ _ (aU rfl)];simp
 | x::s,y::t,h=>by
  have a:=BY x y (h y (by simp));have c:=rT s t (fun z d=>h z (by simp [d]));cases b:Lib.foldEq x y with
  | true=>
   rw [Lib.equalFold_yes _ _ _ _ b,c];rw [b] at a;have:eI x=y:=by simpa using a.symm
   simp [this]
  | false=>
   rw [Lib.equalFold_no _ _ _ _ b];rw [b] at a;have:eI x≠y:=by simpa using a.symm
   simp [this]
theorem YJ:∀ n,n<256→∀ m∈[117,116,102,45,56],decide ((128:Int)≤bits .or .u8 ((n:Nat):Int) ((m:Nat):Int))=decide (128≤n):=by decide +kernel
theorem VX (c d:UInt8) (a:d∈eQ):decide ((128:Int)≤bits .or .u8 (c.toNat:Int) (d.toNat:Int))=decide (128≤c.toNat):=by
 refine YJ c.toNat c.toNat_lt d.toNat ?_;simp only [eQ,mF,y5,or_false] at a;rcases a with rfl|rfl|rfl|rfl|rfl<;>decide
theorem N6 {P:Program} {c:Code} {Q:Exit→Act→World→Prop} {a:Act} {w:World} (h:(Code.scope c).wp P Q a w):(Code.scope c).wp P Q a w:=h
noncomputable def N7 (n:Nat):Code:=((Tryz.f74.body).bind (Code.partAt n)).getD .skip
def YK (s:Bs) (N:Nat) (w0:World) (k:Nat) (a:Act) (w:World):Prop:=
 ∃ f i,a=fr 123 f [(0,aB s),(1,aB eQ),(5,.int .i64 (i:Nat)),(6,.int .i64 N)]∧w0=w∧i≤N∧k=N-i∧∀ j,j<i→(s.getD j 0).toNat<128
def Bl (s:Bs) (w0:World) (k:Nat) (a:Act) (w:World):Prop:=
 k=0∧∃ f i,a=fr 123 f [(0,aB s),(1,aB eQ),(5,.int .i64 (i:Nat))]∧w0=w∧i<s.length∧i<5∧128≤(s.getD i 0).toNat
theorem BZ (s:Bs) (hs:s.length≤1000000000) (j0:Nat) (a9:j0<s.length) (a8:128≤(s.getD j0 0).toNat) (w:World) (a0:kK w) (hu:Lib.Utf8Tabs 6 7 w) :
  Calls prog 74 #[aB s,aB eQ] w fun e w'=>e=.returned (.bool false)∧Below w.heap.size w w':=by
 have ⟨c1,HU,c2,c3,HS⟩:=pM a0 hu a8 a9 hs;obtain ⟨N,hN⟩:∃ N:Nat,min (s.length:Int) 5=(N:Int):=⟨min s.length 5,by omega⟩;have HN:=Lh hN;clear a0 hu a8 a9 hs;refine eL 123 func74 [_,_] fun f=>?_;simp only [aF];(repeat ((fail_if_success with_reducible refine N6 ?_);(first|(with_reducible first|refine zA fun K hK=>?_|refine zB ?_|refine zC ?_)|((with_reducible first|refine zD rfl fun K hK=>?_|refine zE fun K hK=>?_);go_simp)|(with_reducible first|((repeat ((fail_if_success refine hK _ _ ?_);clear hK K));refine hK _ _ ?_;clear hK K)|refine zt ?_|refine zf ?_|refine zG ?_|refine zR ?_|refine zK ?_|refine zL ?_|refine zN ?_|refine zS ?_)|simp only [Exit.then,Exit.inBlock,Exit.noGoto,↓reduceIte,Nat.reduceEqDiff]|simp only [undef,reduceCtorEq,↓reduceIte])));refine cG [0,1] fun f=>?_;refine oJ (rest:=.seq .skip (N7 14)) 0 (Bl s w) (by kernel_rfl) ?_ ?_
 ·refine vg ?_;intro K hK;refine cG [0,1,5,6] fun f=>?_;refine wp_loop_ghost_k (YK s N w) N ⟨f,0,rfl,rfl,jU _,rfl,fun j hj=>by omega⟩ ?_;rintro k _ w6 ⟨f,i,rfl,T,hi,hk,A⟩ J K2 hJ aA;subst T;have ⟨HJ,W,HK,o⟩:=kS hJ aA hk A;clear hJ aA hk A;by_cases bA:i<N
  ·have aC:N≤5∧N≤s.length:=by have:=HN.o;omega
   obtain ⟨aC,dT⟩:=aC;have F:(i:Int)<(N:Int):=by omega
   have h0:(0:Int)≤(i:Int):=by omega
   have h2:(i:Int)<(s.length:Int):=by omega
   have h3:(i:Int)<5:=by omega
   have Y:i<5:=by omega
   have c4:i<s.length:=by omega
   have Q:IntKind.i64.wrap ((i:Int)+1)=((i+1:Nat):Int):=by rw [IntKind.wrap_i64];omega
   obtain ⟨c,V⟩:=cK (s.getD i 0);obtain ⟨d,hd⟩:=cK (eQ.getD i 0);have d1:∀ h,(⟨s.toArray⟩:ByteArray)[i]'h=c:=by intro h;rw [V];exact XZ s i h
   have d2:∀ h,(⟨eQ.toArray⟩:ByteArray)[i]'h=d:=by intro h;rw [hd];exact XZ eQ i h
   have g:d∈eQ:=by rw [hd];rw [rF,List.getElem?_eq_getElem (show i<eQ.length from Y)];exact List.getElem_mem _
   have y:=VX c d g;have ⟨HC,v⟩:=cB V g;by_cases m:128≤c.toNat
   ·have B:decide ((128:Int)≤bits .or .u8 (c.toNat:Int) (d.toNat:Int))=true:=by rw [y];simpa using m
    have u:=Lh m;clear y hd g m V;revert K;refine vg ?_;intro K hK K hK K hK;refine wp_goto ?_;(try simp only [Exit.then,Exit.inBlock])
    refine Qk [0,1,5] fun f=>?_;exact ⟨rfl,0,rfl,f,i,rfl,rfl,c4,Y,by rw [←HC.o];exact u.o⟩
   ·have B:decide ((128:Int)≤bits .or .u8 (c.toNat:Int) (d.toNat:Int))=false:=by rw [y];simpa using m
    have c9:¬ ((128:Int)≤bits .or .u8 (c.toNat:Int) (d.toNat:Int)):=by simpa using B
    have u:=Lh m;have a4:d.toNat<128:=by
     have:∀ z∈eQ,z.toNat<128:=by decide
     exact this d g
    clear y hd g V;by_cases n:d=c
    ·subst n;clear m;revert K;refine vg ?_;intro K hK;refine Kk [0,1,5,6] fun f=>?_;refine W.o _ _ ⟨N-(i+1),by rw [HK.o];omega,HJ.o _ _ _ ⟨f,i+1,rfl,rfl,bA,rfl,fun j hj=>?_⟩⟩;by_cases L:j=i
     ·subst L;rw [←HC.o];have:=u.o;omega
     ·exact o.o j (by omega)
    ·have t1:((d.toNat:Int)==(c.toNat:Int))=false:=eS n rfl;have t2:((c.toNat:Int)==(d.toNat:Int))=false:=eS (fun h=>n h.symm) rfl;by_cases l:Lib.foldEq c d=true
     ·
      have c6:(65≤c.toNat∧c.toNat≤90∧d.toNat=c.toNat+32)∨(65≤d.toNat∧d.toNat≤90∧c.toNat=d.toNat+32):=by
       have h:=of_decide_eq_true l;rcases h with h|h|h
       ·exact absurd (UInt8.toNat_inj.1 h.symm) n
       ·exact aG h
       ·exact aU h
      rcases c6 with ⟨a1,a2,a3⟩|⟨a1,a2,a3⟩
      ·have b1:¬ ((d.toNat:Int)<(c.toNat:Int)):=by omega
       have X:(65:Int)≤(c.toNat:Int):=by omega
       have b3:(c.toNat:Int)≤90:=by omega
       have b4:IntKind.u8.wrap ((c.toNat:Int)+97)=(c.toNat:Int)+97:=by rw [IntKind.wrap_u8];omega
       have b5:IntKind.u8.wrap ((c.toNat:Int)+97-65)=(d.toNat:Int):=by rw [IntKind.wrap_u8];omega
       clear m n l a1 a2 a3;revert K;refine vg ?_;intro K hK;refine Kk [0,1,5,6] fun f=>?_;refine W.o _ _ ⟨N-(i+1),by rw [HK.o];omega,HJ.o _ _ _ ⟨f,i+1,rfl,rfl,bA,rfl,fun j hj=>?_⟩⟩;by_cases L:j=i
       ·subst L;rw [←HC.o];have:=u.o;omega
       ·exact o.o j (by omega)
      ·exfalso;have Z:∀ z∈eQ,¬ (65≤z.toNat∧z.toNat≤90):=by decide
       exact Z d v.o ⟨a1,a2⟩
     ·have M:¬ (65≤c.toNat∧c.toNat≤90∧d.toNat=c.toNat+32):=fun h=>l (decide_eq_true (aU (aG h)));have a7:¬ (65≤d.toNat∧d.toNat≤90):=by
       have Z:∀ z∈eQ,¬ (65≤z.toNat∧z.toNat≤90):=by decide
       exact Z d v.o
      have bC:c.toNat≠d.toNat:=fun h=>n (UInt8.toNat_inj.1 h.symm)
      have c7:((c.toNat:Int)<(d.toNat:Int)∧¬ ((d.toNat:Int)<(c.toNat:Int))∧¬ ((65:Int)≤(c.toNat:Int))) ∨
        ((c.toNat:Int)<(d.toNat:Int)∧¬ ((d.toNat:Int)<(c.toNat:Int))∧(65:Int)≤(c.toNat:Int)∧¬ ((c.toNat:Int)≤90)) ∨
        ((c.toNat:Int)<(d.toNat:Int)∧¬ ((d.toNat:Int)<(c.toNat:Int))∧(65:Int)≤(c.toNat:Int)∧(c.toNat:Int)≤90) ∨
        ((d.toNat:Int)<(c.toNat:Int)∧¬ ((65:Int)≤(d.toNat:Int)))∨((d.toNat:Int)<(c.toNat:Int)∧(65:Int)≤(d.toNat:Int)∧¬ ((d.toNat:Int)≤90)):=by omega
      rcases c7 with ⟨b1,X,b3⟩|⟨b1,X,b3,b4⟩|⟨b1,X,b3,b4⟩|⟨b1,X⟩|⟨b1,X,b3⟩;case inr.inr.inl=>
       have b5:IntKind.u8.wrap ((c.toNat:Int)+97)=(c.toNat:Int)+97:=by rw [IntKind.wrap_u8];omega
       have b6:IntKind.u8.wrap ((c.toNat:Int)+97-65)=(c.toNat:Int)+32:=by rw [IntKind.wrap_u8];omega
       have b7:((d.toNat:Int)==(c.toNat:Int)+32)=false:=by rw [lQ];intro h;exact M ⟨by omega,by omega,by omega⟩
       clear m n l M a7 bC;revert K;refine vg ?_;intro K hK K hK;(try simp only [Exit.jump])
       refine cM ?_;exact ⟨rfl,Below.refl _ _⟩
      all_goals
       clear m n l M a7 bC;revert K;refine vg ?_;intro K hK K hK;(try simp only [Exit.jump])
       refine cM ?_;exact ⟨rfl,Below.refl _ _⟩
  ·have c5:i=N:=by omega
   subst c5;have F:¬ ((i:Int)<(i:Int)):=by omega
   have c8:((s.length:Int)==5)=false:=by
    rw [lQ];intro h5;have h2:=HN.o;have h3:=o.o j0 (by have:=c3.o;omega);have:=c2.o;omega
   revert K;refine vg ?_;intro K hK;(try simp only [Exit.jump])
   refine cM ?_;exact ⟨rfl,Below.refl _ _⟩
 ·rintro k _ w6 ⟨rfl,f,i,rfl,T,hi,d0,V⟩;subst T;have h0:(0:Int)≤(i:Int):=by omega
  have F:(i:Int)≤(s.length:Int):=by omega
  have h2:(i:Int)≤5:=by omega
  have C:=pT s i;have r:(⟨eQ.toArray⟩:ByteArray).extract i 5=⟨(eQ.drop i).toArray⟩:=pT eQ i;obtain ⟨c,H⟩:=cK (s.getD i 0);obtain ⟨d,a5⟩:=cK (eQ.getD i 0);have b9:s.drop i=c::s.drop (i+1):=by rw [H,CN hi];simp [hi]
  have O:eQ.drop i=d::eQ.drop (i+1):=by
   rw [a5];have:i=0∨i=1∨i=2∨i=3∨i=4:=by omega
   rcases this with rfl|rfl|rfl|rfl|rfl<;>rfl
  rw [←H] at V;have g:d∈eQ:=by
   have:d∈eQ.drop i:=by rw [O];simp
   exact List.mem_of_mem_drop this
  rw [b9] at C;rw [O] at r;obtain ⟨S,hS⟩:=cK (c::s.drop (i+1));obtain ⟨U,hU⟩:=cK (d::eQ.drop (i+1));rw [←hS] at C;rw [←hU] at r;have Q:(w.iter ⟨S.toArray⟩ 0).heap[w.heap.size]?=some (.stringIter ⟨S.toArray⟩ 0):=World.iter_heap _ _ _;have b0:=Lib.run_next_any_at (P:=prog) (w.iter ⟨S.toArray⟩ 0) w.heap.size ⟨S.toArray⟩ 0 0 Q (by rw [hS];simp [ByteArray.size]);have q:128≤(Utf8.decode ⟨S.toArray⟩ 0).1∧(Utf8.decode ⟨S.toArray⟩ 0).1≤1114111:=by
   have hg:((⟨S.toArray⟩:ByteArray).get! 0).toNat=c.toNat:=by rw [hS];rfl
   rw [Lib.decode_at,hg];unfold Lib.decodeN;rw [aQ (by omega)];repeat' split
   all_goals (simp only [];omega)
  obtain ⟨R,hR⟩:=cK ((Utf8.decode ⟨S.toArray⟩ 0).1);rw [←hR] at b0 q;have a6:Lib.decodeGo ⟨U.toArray⟩=(d.toNat,1):=by
   have a4:d.toNat<128:=by
    have Z:∀ z∈eQ,z.toNat<128:=by decide
    exact Z d g
   have h8:=Lib.decodeL_ascii d (eQ.drop (i+1)) a4;rw [hU];exact h8
  have x:Below w.heap.size w ((w.iter ⟨S.toArray⟩ 0).iterAt w.heap.size ⟨S.toArray⟩ (0+(Utf8.decode ⟨S.toArray⟩ 0).2)):=by
   have F:Below w.heap.size w (w.iter ⟨S.toArray⟩ 0):=(Below.refl _ w).alloc (dF _) _;exact ⟨F.os,F.tape,F.output,by simp [World.iterAt,World.iter],fun k hk=>by
    rw [←F.block k hk];simp only [World.iterAt]
    first
     | (rw [Array.getElem?_setIfInBounds];rw [aQ (by omega)])
     | (rw [Array.getElem?_modify];rw [aQ (by omega)])⟩
  obtain ⟨w2,cT⟩:=cK ((w.iter ⟨S.toArray⟩ 0).iterAt w.heap.size ⟨S.toArray⟩ (0+(Utf8.decode ⟨S.toArray⟩ 0).2));rw [←cT] at b0 x;have I:=Lh (Tryz.utf8_DecodeRuneInString ⟨U.toArray⟩ w2 (Utf8Tabs_below HU.o x));rw [a6] at I;have ⟨E,v⟩:=cB x g;have d5:((U.length:Int)==0)=false:=by rw [hU];simp;omega
  have dI:(1:Int)≤(U.length:Int):=by rw [hU];simp;omega
  have d3:(128:Int)≤(R:Int):=by omega
  have d4:¬ ((R:Int)<128):=by omega
  clear Q x a6 cT hR hS hU b9 O H a5 g q;unfold N7;conv=>arg 2;arg 2;whnf
  refine vg ?_;intro K hK;refine wp_loop_once ?_;revert K;refine vg ?_;intro K hK K hK K hK;refine I.o.mono ?_;rintro e3 D ⟨rfl,G⟩;have p:=Lh (E.o.trans (G.mono E.o.size));have b:=Lh ((c1.o.below E.o).below G);have g:=v.o;clear G I;simp only [eQ,mF,y5,or_false] at g;rcases g with rfl|rfl|rfl|rfl|rfl;case inr.inr.inr.inl=>
   have r1:((45:Int)==(R:Int))=false:=by rw [lQ];omega
   have r2:(45:Int)<(R:Int):=by omega
   have a:=Lh (eW 45 (by decide) 45 (by decide +kernel) (by decide) D b.o);(repeat revert K);refine vS ?_;intro K hK K hK K hK;refine a.o.mono ?_;rintro e4 w4 ⟨rfl,t,rfl⟩;clear a;(repeat revert K);refine vS ?_;intro K hK K hK;refine wp_loop_once ?_;(repeat revert K);refine vg ?_;intro K hK;(try simp only [Exit.jump])
   refine cM ?_;exact ⟨rfl,bM p.o _⟩
  case inr.inr.inr.inr=>
   have r1:((56:Int)==(R:Int))=false:=by rw [lQ];omega
   have r2:(56:Int)<(R:Int):=by omega
   have a:=Lh (eW 56 (by decide) 56 (by decide +kernel) (by decide) D b.o);(repeat revert K);refine vS ?_;intro K hK K hK K hK;refine a.o.mono ?_;rintro e4 w4 ⟨rfl,t,rfl⟩;clear a;(repeat revert K);refine vS ?_;intro K hK K hK;refine wp_loop_once ?_;(repeat revert K);refine vg ?_;intro K hK;(try simp only [Exit.jump])
   refine cM ?_;exact ⟨rfl,bM p.o _⟩
  case inl=>
   have r1:((117:Int)==(R:Int))=false:=by rw [lQ];omega
   have r2:(117:Int)<(R:Int):=by omega
   have r3:(85:Int)<(R:Int):=by omega
   have a:=Lh (eW 117 (by decide) 85 (by decide +kernel) (by decide) D b.o);(repeat revert K);refine vS ?_;intro K hK K hK K hK;refine a.o.mono ?_;rintro e4 w4 ⟨rfl,t,rfl⟩;have a:=Lh (eW 85 (by decide) 117 (by decide +kernel) (by decide) (D.drewN t) (b.o.drewN t));(repeat revert K);refine vS ?_;intro K hK K hK;refine wp_loop_rounds 2 ?_;rw [rounds_succ];(repeat revert K);refine vg ?_;intro K hK K hK K hK;refine a.o.mono ?_;rintro e5 w5 ⟨rfl,k5,rfl⟩;(repeat revert K);refine vS ?_;intro K hK K hK;rw [rounds_succ];(repeat revert K);refine vg ?_;intro K hK;(try simp only [Exit.jump])
   refine cM ?_;exact ⟨rfl,bM p.o _⟩
  case inr.inl=>
   have r1:((116:Int)==(R:Int))=false:=by rw [lQ];omega
   have r2:(116:Int)<(R:Int):=by omega
   have r3:(84:Int)<(R:Int):=by omega
   have a:=Lh (eW 116 (by decide) 84 (by decide +kernel) (by decide) D b.o);(repeat revert K);refine vS ?_;intro K hK K hK K hK;refine a.o.mono ?_;rintro e4 w4 ⟨rfl,t,rfl⟩;have a:=Lh (eW 84 (by decide) 116 (by decide +kernel) (by decide) (D.drewN t) (b.o.drewN t));(repeat revert K);refine vS ?_;intro K hK K hK;refine wp_loop_rounds 2 ?_;rw [rounds_succ];(repeat revert K);refine vg ?_;intro K hK K hK K hK;refine a.o.mono ?_;rintro e5 w5 ⟨rfl,k5,rfl⟩;(repeat revert K);refine vS ?_;intro K hK K hK;rw [rounds_succ];(repeat revert K);refine vg ?_;intro K hK;(try simp only [Exit.jump])
   refine cM ?_;exact ⟨rfl,bM p.o _⟩
  case inr.inr.inl=>
   have r1:((102:Int)==(R:Int))=false:=by rw [lQ];omega
   have r2:(102:Int)<(R:Int):=by omega
   have r3:(70:Int)<(R:Int):=by omega
   have a:=Lh (eW 102 (by decide) 70 (by decide +kernel) (by decide) D b.o);(repeat revert K);refine vS ?_;intro K hK K hK K hK;refine a.o.mono ?_;rintro e4 w4 ⟨rfl,t,rfl⟩;have a:=Lh (eW 70 (by decide) 102 (by decide +kernel) (by decide) (D.drewN t) (b.o.drewN t));(repeat revert K);refine vS ?_;intro K hK K hK;refine wp_loop_rounds 2 ?_;rw [rounds_succ];(repeat revert K);refine vg ?_;intro K hK K hK K hK;refine a.o.mono ?_;rintro e5 w5 ⟨rfl,k5,rfl⟩;(repeat revert K);refine vS ?_;intro K hK K hK;rw [rounds_succ];(repeat revert K);refine vg ?_;intro K hK;(try simp only [Exit.jump])
   refine cM ?_;exact ⟨rfl,bM p.o _⟩
theorem KZ (s:Bs) (j:Nat) (c:j<s.length) (h:128≤(s.getD j 0).toNat):pO s=false:=by
 unfold pO;rw [lQ];intro i;have a:=congrArg (fun l=>l[j]?) i;simp only [List.getElem?_map,List.getElem?_eq_getElem c,Option.map_some] at a;have b:s[j]=s.getD j 0:=by simp [c]
 have d:eI s[j]∈eQ:=by
  have:=List.mem_of_getElem? a.symm;exact this
 have e:eI s[j]=s[j]:=by
  unfold eI;rw [aQ];simp only [FI,IC,UInt8.le_iff_toNat_le];rintro ⟨_,f⟩;have:(90:UInt8).toNat=90:=rfl;rw [b] at f;omega
 rw [e,b] at d;have g:∀ z∈eQ,z.toNat<128:=by decide
 have:=g _ d;omega
theorem xU (s:Bs) (m:s.length≤1000000000) (w:World) (f:kK w) (n:Lib.Utf8Tabs 6 7 w) :
  Calls prog 74 #[aB s,aB eQ] w fun e w'=>e=.returned (.bool (pO s))∧Below w.heap.size w w':=by
 by_cases h:∃ j,j<s.length∧128≤(s.getD j 0).toNat
 ·obtain ⟨j,c,g⟩:=h;rw [KZ s j c g];exact BZ s m j c g w f n
 ·have i:=Tryz.strings_EqualFold ⟨s.toArray⟩ ⟨eQ.toArray⟩ w (by simp [ByteArray.size];omega) (fun j b a=>by
   rcases Nat.lt_or_ge b.toNat 128 with d|d
   ·exact d
   ·obtain ⟨c,o⟩:=A9.1 a;exact absurd ⟨j,c,by rw [rF,a];exact d⟩ h) (fun j b a=>by
   have l:b∈eQ:=List.mem_of_getElem? a;have k:∀ z∈eQ,z.toNat<128:=by decide
   exact k b l)
  refine i.mono ?_;rintro e w' ⟨rfl,rfl⟩;refine ⟨?_,Below.refl _ _⟩;have:=rT s eQ (fun _ h=>h);show Ending.returned (.bool (Lib.equalFold s eQ))=_;rw [this];rfl
end Go.Proofs.YthapcchcahnfaaaGreatDoor
