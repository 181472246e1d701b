/- Part of the proof that laws.FnSkip returns true for every argument. No conditions. -/
import Derived.Test.YthapcchcahnfaaaGreatDoorS03
import Derived.Test.YthapcchcahnfaaaGreatDoorS08
import Derived.Laws.BitsLemmas
import Derived.LoopN
set_option linter.all false
set_option maxHeartbeats 8000000
set_option maxRecDepth 100000
namespace Go.Proofs.YthapcchcahnfaaaGreatDoor
open Go Go.RowKit Go.Proofs.Tryz
theorem NR (d:UInt8):bits .and .u8 (d.toNat:Int) 192=((d.toNat / 64*64:Nat):Int):=by
 have h:=(bits_nat .u8 8 (by decide) wraps_u8 d.toNat 192 (by have:=d.toNat_lt;omega) (by decide)).1;have k:∀ n:Fin 256,n.val &&& 192=n.val / 64*64:=by decide
 have:=k ⟨d.toNat,d.toNat_lt⟩;simp only at this;rw [←this];exact h
theorem eX (d:UInt8) (h:d.toNat / 64=2):(bits .and .u8 (d.toNat:Int) 192 != 128)=false:=by
 rw [NR,h];rfl
theorem qZ (d:UInt8) (h:d.toNat / 64≠2):(bits .and .u8 (d.toNat:Int) 192 != 128)=true:=by
 rw [NR];simp only [bne_iff_ne,ne_eq];omega
theorem jN (d:UInt8):bits .and .u8 (d.toNat:Int) 63=((d.toNat % 64:Nat):Int):=by
 have:=u8_and63 d.toNat (by omega) (by have:=d.toNat_lt;omega);rw [this];rfl
theorem jO (n:Int) (a:0≤n) (b:n<2 ^ 60):IntKind.i64.wrap n=n:=by rw [IntKind.wrap_i64];omega
theorem iK (c:UInt8):bits .and .i64 (c.toNat:Int) 31=((c.toNat % 32:Nat):Int)∧bits .and .i64 (c.toNat:Int) 15=((c.toNat % 16:Nat):Int)∧bits .and .i64 (c.toNat:Int) 7=((c.toNat % 8:Nat):Int):=by
 have b:(c.toNat:Int)<2 ^ 60:=by have:=c.toNat_lt;omega
 have a:(0:Int)≤(c.toNat:Int):=by omega
 have f:=bits_mask .i64 60 (by decide) jO 5 (by decide) _ a b;have e:=bits_mask .i64 60 (by decide) jO 4 (by decide) _ a b;have d:=bits_mask .i64 60 (by decide) jO 3 (by decide) _ a b;exact ⟨f,e,d⟩
theorem jP (r y:Nat) (a:r<2 ^ 30) (b:y<64):IntKind.i64.wrap ((r:Int)*64)=(r:Int)*64∧IntKind.i64.wrap (y:Int)=(y:Int)∧bits .or .i64 ((r:Int)*64) (y:Int)=((r*64+y:Nat):Int):=by
 refine ⟨jO _ (by omega) (by omega),jO _ (by omega) (by omega),?_⟩;rw [bits_join .i64 60 (by decide) jO 6 _ _ (by omega) (by omega) (by omega) (by omega) (by omega) (by omega)]
 push_cast;rfl
theorem Bk {c:UInt8} (h:c.toNat<128):((c.toNat:Int)<128)∧¬ ((194:Int)≤(c.toNat:Int))∧((c.toNat:Int)<224)∧¬ ((224:Int)≤(c.toNat:Int))∧((c.toNat:Int)<240)∧¬ ((240:Int)≤(c.toNat:Int))∧((c.toNat:Int)<245)∧IntKind.i64.wrap (c.toNat:Int)=(c.toNat:Int)∧c.toNat<256:=by
 have:=c.toNat_lt;have a:IntKind.i64.wrap (c.toNat:Int)=(c.toNat:Int):=by rw [IntKind.wrap_i64];omega
 refine ⟨?_,?_,?_,?_,?_,?_,?_,a,this⟩<;>omega
theorem Al {c:UInt8} (h:194≤c.toNat∧c.toNat<224):¬ ((c.toNat:Int)<128)∧((194:Int)≤(c.toNat:Int))∧((c.toNat:Int)<224)∧¬ ((224:Int)≤(c.toNat:Int))∧((c.toNat:Int)<240)∧¬ ((240:Int)≤(c.toNat:Int))∧((c.toNat:Int)<245)∧IntKind.i64.wrap (c.toNat:Int)=(c.toNat:Int)∧c.toNat<256:=by
 have:=c.toNat_lt;have a:IntKind.i64.wrap (c.toNat:Int)=(c.toNat:Int):=by rw [IntKind.wrap_i64];omega
 refine ⟨?_,?_,?_,?_,?_,?_,?_,a,this⟩<;>omega
theorem XV {c:UInt8} (h:224≤c.toNat∧c.toNat<240):¬ ((c.toNat:Int)<128)∧((194:Int)≤(c.toNat:Int))∧¬ ((c.toNat:Int)<224)∧((224:Int)≤(c.toNat:Int))∧((c.toNat:Int)<240)∧¬ ((240:Int)≤(c.toNat:Int))∧((c.toNat:Int)<245)∧IntKind.i64.wrap (c.toNat:Int)=(c.toNat:Int)∧c.toNat<256:=by
 have:=c.toNat_lt;have a:IntKind.i64.wrap (c.toNat:Int)=(c.toNat:Int):=by rw [IntKind.wrap_i64];omega
 refine ⟨?_,?_,?_,?_,?_,?_,?_,a,this⟩<;>omega
theorem VI {c:UInt8} (h:240≤c.toNat∧c.toNat<245):¬ ((c.toNat:Int)<128)∧((194:Int)≤(c.toNat:Int))∧¬ ((c.toNat:Int)<224)∧((224:Int)≤(c.toNat:Int))∧¬ ((c.toNat:Int)<240)∧((240:Int)≤(c.toNat:Int))∧((c.toNat:Int)<245)∧IntKind.i64.wrap (c.toNat:Int)=(c.toNat:Int)∧c.toNat<256:=by
 have:=c.toNat_lt;have a:IntKind.i64.wrap (c.toNat:Int)=(c.toNat:Int):=by rw [IntKind.wrap_i64];omega
 refine ⟨?_,?_,?_,?_,?_,?_,?_,a,this⟩<;>omega
theorem DB {l:Bs} {k:Nat} (h:k+1≤l.length):l.isEmpty=false∧(0:Int)<(l.length:Int)∧0<l.length:=by
 refine ⟨?_,by omega,by omega⟩;cases l with
 | nil=>simp at h
 | cons=>rfl
theorem KE (l:Bs) (c:UInt8) (w:World) (g:1≤l.length) (m:∀ h,(⟨l.toArray⟩:ByteArray)[0]'h=c) (b:c.toNat<128) :
  Calls prog 58 #[(.string ⟨l.toArray⟩)] w fun e w'=>e=.returned (.tuple #[.int .i64 (c.toNat:Int),.int .i64 1])∧w=w':=by
 obtain ⟨n,o,p,q,r,s,t,d,a⟩:=Bk b;obtain ⟨k,i,j⟩:=DB g;refine eL 92 func58 [_] fun f=>?_;simp only [aF];refine vg ?_;intro K hK;refine kW ?_;exact ⟨rfl,rfl⟩
theorem NS (l:Bs) (c:UInt8) (w:World) (g:1≤l.length) (m:∀ h,(⟨l.toArray⟩:ByteArray)[0]'h=c) (a:(128≤c.toNat∧c.toNat<194)∨245≤c.toNat) :
  Calls prog 58 #[(.string ⟨l.toArray⟩)] w fun e w'=>e=.returned (.tuple #[.int .i64 0,.int .i64 0])∧w=w':=by
 rcases a with a|a
 all_goals
  have b:=c.toNat_lt;first|have:((c.toNat:Int)<128):=by omega|have:¬ (((c.toNat:Int)<128)):=by omega
  first|have:((194:Int)≤(c.toNat:Int)):=by omega|have:¬ (((194:Int)≤(c.toNat:Int))):=by omega
  first|have:((c.toNat:Int)<224):=by omega|have:¬ (((c.toNat:Int)<224)):=by omega
  first|have:((224:Int)≤(c.toNat:Int)):=by omega|have:¬ (((224:Int)≤(c.toNat:Int))):=by omega
  first|have:((c.toNat:Int)<240):=by omega|have:¬ (((c.toNat:Int)<240)):=by omega
  first|have:((240:Int)≤(c.toNat:Int)):=by omega|have:¬ (((240:Int)≤(c.toNat:Int))):=by omega
  first|have:((c.toNat:Int)<245):=by omega|have:¬ (((c.toNat:Int)<245)):=by omega
  have d:IntKind.i64.wrap (c.toNat:Int)=(c.toNat:Int):=by rw [IntKind.wrap_i64];omega
  have k:l.isEmpty=false:=by cases l with
   | nil=>simp at g
   | cons=>rfl
  have i:(0:Int)<(l.length:Int):=by omega
  have j:0<l.length:=by omega
  refine eL 92 func58 [_] fun f=>?_;simp only [aF];refine vg ?_;intro K hK;refine kW ?_;exact ⟨rfl,rfl⟩
theorem F0 (l:Bs) (c:UInt8) (w:World) (g:1≤l.length) (n:l.length<2) (o:∀ h,(⟨l.toArray⟩:ByteArray)[0]'h=c) (b:194≤c.toNat∧c.toNat<224) :
  Calls prog 58 #[(.string ⟨l.toArray⟩)] w fun e w'=>e=.returned (.tuple #[.int .i64 0,.int .i64 0])∧w=w':=by
 obtain ⟨p,q,r,s,t,u,v,d,a⟩:=Al b;obtain ⟨m,i,k⟩:=DB g;have j:(l.length:Int)<2:=by omega
 refine eL 92 func58 [_] fun f=>?_;simp only [aF];refine vg ?_;intro K hK;refine kW ?_;exact ⟨rfl,rfl⟩
theorem KF (l:Bs) (c d:UInt8) (w:World) (o:2≤l.length) (B:∀ h,(⟨l.toArray⟩:ByteArray)[0]'h=c) (C:∀ h,(⟨l.toArray⟩:ByteArray)[1]'h=d) (m:194≤c.toNat∧c.toNat<224) (g:d.toNat / 64≠2) :
  Calls prog 58 #[(.string ⟨l.toArray⟩)] w fun e w'=>e=.returned (.tuple #[.int .i64 0,.int .i64 0])∧w=w':=by
 obtain ⟨D,E,F,G,H,I,J,n,i⟩:=Al m;obtain ⟨A,p,t⟩:=DB o;have r:¬ ((l.length:Int)<2):=by omega
 have u:1<l.length:=by omega
 have q:(1:Int)<(l.length:Int):=by omega
 have s:=qZ d g;have x:IntKind.i64.wrap 2=2:=rfl;have y:IntKind.i64.wrap 3=3:=rfl;have z:IntKind.i64.wrap 4=4:=rfl;have b:=(iK c).1;obtain ⟨j,a⟩:∃ j:Nat,j=c.toNat % 32:=⟨_,rfl⟩;rw [←a] at b;have k:=Lh a;have v:j<32:=by omega
 clear a;refine eL 92 func58 [_] fun f=>?_;simp only [aF];refine vg ?_;intro K hK;refine wp_loop_rounds 1 ?_;rw [rounds_succ];revert K;refine vg ?_;intro K hK K hK K hK;refine kW ?_;exact ⟨rfl,rfl⟩
theorem RJ (l:Bs) (c d:UInt8) (w:World) (E:2≤l.length) (V:∀ h,(⟨l.toArray⟩:ByteArray)[0]'h=c) (W:∀ h,(⟨l.toArray⟩:ByteArray)[1]'h=d) (C:194≤c.toNat∧c.toNat<224) (t:d.toNat / 64=2) (U:True) :
  Calls prog 58 #[(.string ⟨l.toArray⟩)] w fun e w'=>e=.returned (.tuple #[.int .i64 (((c.toNat % 32)*64+d.toNat % 64:Nat):Int),.int .i64 2])∧w=w':=by
 obtain ⟨X,Y,Z,q3,q4,q5,q6,D,u⟩:=Al C;obtain ⟨T,F,J⟩:=DB E;have H:¬ ((l.length:Int)<2):=by omega
 have L:1<l.length:=by omega
 have G:(1:Int)<(l.length:Int):=by omega
 have I:=eX d t;have O:IntKind.i64.wrap 2=2:=rfl;have P:IntKind.i64.wrap 3=3:=rfl;have Q:IntKind.i64.wrap 4=4:=rfl;have s:=(iK c).1;obtain ⟨g,n⟩:∃ g:Nat,g=c.toNat % 32:=⟨_,rfl⟩;rw [←n] at s;have i:=Lh n;have M:g<32:=by omega
 clear n;have v:=jN d;obtain ⟨x,p⟩:∃ y:Nat,y=d.toNat % 64:=⟨_,rfl⟩;rw [←p] at v;have k:=Lh p;have b:x<64:=by omega
 clear p;obtain ⟨A,B,q⟩:=jP g x (by omega) b;obtain ⟨z,o⟩:∃ r:Nat,r=g*64+x:=⟨_,rfl⟩;rw [←o] at q;have j:=Lh o;have N:z<2048:=by omega
 clear o;have a:z=(c.toNat % 32)*64+d.toNat % 64:=by
  have R:=i.o;have S:=j.o;have b1:=k.o;omega
 have m:=Lh a;clear a;refine eL 92 func58 [_] fun f=>?_;simp only [aF];refine vg ?_;intro K hK;refine wp_loop_rounds 2 ?_;rw [rounds_succ];revert K;refine vg ?_;intro K hK;rw [rounds_succ];revert K;refine vg ?_;refine kW ?_;refine ⟨?_,rfl⟩;rw [←m.o]
theorem F1 (l:Bs) (c:UInt8) (w:World) (g:1≤l.length) (n:l.length<3) (o:∀ h,(⟨l.toArray⟩:ByteArray)[0]'h=c) (b:224≤c.toNat∧c.toNat<240) :
  Calls prog 58 #[(.string ⟨l.toArray⟩)] w fun e w'=>e=.returned (.tuple #[.int .i64 0,.int .i64 0])∧w=w':=by
 obtain ⟨p,q,r,s,t,u,v,d,a⟩:=XV b;obtain ⟨m,i,k⟩:=DB g;have j:(l.length:Int)<3:=by omega
 refine eL 92 func58 [_] fun f=>?_;simp only [aF];refine vg ?_;intro K hK;refine kW ?_;exact ⟨rfl,rfl⟩
theorem KG (l:Bs) (c d:UInt8) (w:World) (o:3≤l.length) (B:∀ h,(⟨l.toArray⟩:ByteArray)[0]'h=c) (C:∀ h,(⟨l.toArray⟩:ByteArray)[1]'h=d) (m:224≤c.toNat∧c.toNat<240) (g:d.toNat / 64≠2) :
  Calls prog 58 #[(.string ⟨l.toArray⟩)] w fun e w'=>e=.returned (.tuple #[.int .i64 0,.int .i64 0])∧w=w':=by
 obtain ⟨D,E,F,G,H,I,J,n,i⟩:=XV m;obtain ⟨A,p,t⟩:=DB o;have r:¬ ((l.length:Int)<3):=by omega
 have u:1<l.length:=by omega
 have q:(1:Int)<(l.length:Int):=by omega
 have s:=qZ d g;have x:IntKind.i64.wrap 2=2:=rfl;have y:IntKind.i64.wrap 3=3:=rfl;have z:IntKind.i64.wrap 4=4:=rfl;have b:=(iK c).2.1;obtain ⟨j,a⟩:∃ j:Nat,j=c.toNat % 16:=⟨_,rfl⟩;rw [←a] at b;have k:=Lh a;have v:j<16:=by omega
 clear a;refine eL 92 func58 [_] fun f=>?_;simp only [aF];refine vg ?_;intro K hK;refine wp_loop_rounds 1 ?_;rw [rounds_succ];revert K;refine vg ?_;intro K hK K hK K hK;refine kW ?_;exact ⟨rfl,rfl⟩
theorem KH (l:Bs) (c d b:UInt8) (w:World) (D:3≤l.length) (V:∀ h,(⟨l.toArray⟩:ByteArray)[0]'h=c) (W:∀ h,(⟨l.toArray⟩:ByteArray)[1]'h=d) (X:∀ h,(⟨l.toArray⟩:ByteArray)[2]'h=b) (B:224≤c.toNat∧c.toNat<240) (o:d.toNat / 64=2) (p:b.toNat / 64≠2) :
  Calls prog 58 #[(.string ⟨l.toArray⟩)] w fun e w'=>e=.returned (.tuple #[.int .i64 0,.int .i64 0])∧w=w':=by
 obtain ⟨Y,Z,q2,q3,q4,q5,q6,C,q⟩:=XV B;obtain ⟨U,E,L⟩:=DB D;have H:¬ ((l.length:Int)<3):=by omega
 have M:1<l.length:=by omega
 have F:(1:Int)<(l.length:Int):=by omega
 have I:=eX d o;have N:2<l.length:=by omega
 have G:(2:Int)<(l.length:Int):=by omega
 have J:=qZ b p;have Q:IntKind.i64.wrap 2=2:=rfl;have R:IntKind.i64.wrap 3=3:=rfl;have S:IntKind.i64.wrap 4=4:=rfl;have n:=(iK c).2.1;obtain ⟨g,i⟩:∃ g:Nat,g=c.toNat % 16:=⟨_,rfl⟩;rw [←i] at n;have u:=Lh i;have O:g<16:=by omega
 clear i;have s:=jN d;obtain ⟨t,k⟩:∃ y:Nat,y=d.toNat % 64:=⟨_,rfl⟩;rw [←k] at s;have x:=Lh k;have a:t<64:=by omega
 clear k;obtain ⟨z,A,m⟩:=jP g t (by omega) a;obtain ⟨T,j⟩:∃ r:Nat,r=g*64+t:=⟨_,rfl⟩;rw [←j] at m;have v:=Lh j;have P:T<1024:=by omega
 clear j;refine eL 92 func58 [_] fun f=>?_;simp only [aF];refine vg ?_;intro K hK;refine wp_loop_rounds 2 ?_;rw [rounds_succ];revert K;refine vg ?_;intro K hK;rw [rounds_succ];revert K;refine vg ?_;intro K hK K hK K hK;refine kW ?_;exact ⟨rfl,rfl⟩
theorem KI (l:Bs) (c d b:UInt8) (w:World) (S:3≤l.length) (i0:∀ h,(⟨l.toArray⟩:ByteArray)[0]'h=c) (i1:∀ h,(⟨l.toArray⟩:ByteArray)[1]'h=d) (i2:∀ h,(⟨l.toArray⟩:ByteArray)[2]'h=b) (Q:224≤c.toNat∧c.toNat<240) (C:d.toNat / 64=2) (D:b.toNat / 64=2) (hr:(((c.toNat % 16)*64+d.toNat % 64)*64+b.toNat % 64)<2048) :
  Calls prog 58 #[(.string ⟨l.toArray⟩)] w fun e w'=>e=.returned (.tuple #[.int .i64 0,.int .i64 0])∧w=w':=by
 obtain ⟨q0,q1,q2,q3,q4,q5,q6,R,E⟩:=XV Q;obtain ⟨he,T,Z⟩:=DB S;have W:¬ ((l.length:Int)<3):=by omega
 have aA:1<l.length:=by omega
 have U:(1:Int)<(l.length:Int):=by omega
 have X:=eX d C;have aC:2<l.length:=by omega
 have V:(2:Int)<(l.length:Int):=by omega
 have Y:=eX b D;have a6:IntKind.i64.wrap 2=2:=rfl;have a7:IntKind.i64.wrap 3=3:=rfl;have a8:IntKind.i64.wrap 4=4:=rfl;have B:=(iK c).2.1;obtain ⟨k,s⟩:∃ k:Nat,k=c.toNat % 16:=⟨_,rfl⟩;rw [←s] at B;have m:=Lh s;have a3:k<16:=by omega
 clear s;have F:=jN d;obtain ⟨I,v⟩:∃ y:Nat,y=d.toNat % 64:=⟨_,rfl⟩;rw [←v] at F;have p:=Lh v;have i:I<64:=by omega
 clear v;obtain ⟨M,N,z⟩:=jP k I (by omega) i;obtain ⟨H,t⟩:∃ r:Nat,r=k*64+I:=⟨_,rfl⟩;rw [←t] at z;have n:=Lh t;have a4:H<1024:=by omega
 clear t;have G:=jN b;obtain ⟨J,x⟩:∃ y:Nat,y=b.toNat % 64:=⟨_,rfl⟩;rw [←x] at G;have q:=Lh x;have j:J<64:=by omega
 clear x;obtain ⟨O,P,A⟩:=jP H J (by omega) j;obtain ⟨a,u⟩:∃ r:Nat,r=H*64+J:=⟨_,rfl⟩;rw [←u] at A;have o:=Lh u;have a5:a<65536:=by omega
 clear u;have g:a=((c.toNat % 16)*64+d.toNat % 64)*64+b.toNat % 64:=by
  have a0:=m.o;have a1:=n.o;have b1:=p.o;have a2:=o.o;have b2:=q.o;omega
 rw [←g] at hr;have L:=Lh g;clear g;first|have:((a:Int)<2048):=by omega|have:¬ (((a:Int)<2048)):=by omega
 first|have:((55296:Int)≤(a:Int)):=by omega|have:¬ (((55296:Int)≤(a:Int))):=by omega
 first|have:((a:Int)<57344):=by omega|have:¬ (((a:Int)<57344)):=by omega
 first|have:((a:Int)<65536):=by omega|have:¬ (((a:Int)<65536)):=by omega
 first|have:((1114111:Int)<(a:Int)):=by omega|have:¬ (((1114111:Int)<(a:Int))):=by omega
 refine eL 92 func58 [_] fun f=>?_;simp only [aF];refine vg ?_;intro K hK;refine wp_loop_rounds 3 ?_;rw [rounds_succ];revert K;refine vg ?_;intro K hK;rw [rounds_succ];revert K;refine vg ?_;intro K hK;rw [rounds_succ];revert K;refine vg ?_;intro K hK;refine kW ?_;refine ⟨?_,rfl⟩;rfl
theorem KJ (l:Bs) (c d b:UInt8) (w:World) (S:3≤l.length) (i0:∀ h,(⟨l.toArray⟩:ByteArray)[0]'h=c) (i1:∀ h,(⟨l.toArray⟩:ByteArray)[1]'h=d) (i2:∀ h,(⟨l.toArray⟩:ByteArray)[2]'h=b) (Q:224≤c.toNat∧c.toNat<240) (C:d.toNat / 64=2) (D:b.toNat / 64=2) (hr:(55296≤(((c.toNat % 16)*64+d.toNat % 64)*64+b.toNat % 64)∧(((c.toNat % 16)*64+d.toNat % 64)*64+b.toNat % 64)<57344)) :
  Calls prog 58 #[(.string ⟨l.toArray⟩)] w fun e w'=>e=.returned (.tuple #[.int .i64 0,.int .i64 0])∧w=w':=by
 obtain ⟨q0,q1,q2,q3,q4,q5,q6,R,E⟩:=XV Q;obtain ⟨he,T,Z⟩:=DB S;have W:¬ ((l.length:Int)<3):=by omega
 have aA:1<l.length:=by omega
 have U:(1:Int)<(l.length:Int):=by omega
 have X:=eX d C;have aC:2<l.length:=by omega
 have V:(2:Int)<(l.length:Int):=by omega
 have Y:=eX b D;have a6:IntKind.i64.wrap 2=2:=rfl;have a7:IntKind.i64.wrap 3=3:=rfl;have a8:IntKind.i64.wrap 4=4:=rfl;have B:=(iK c).2.1;obtain ⟨k,s⟩:∃ k:Nat,k=c.toNat % 16:=⟨_,rfl⟩;rw [←s] at B;have m:=Lh s;have a3:k<16:=by omega
 clear s;have F:=jN d;obtain ⟨I,v⟩:∃ y:Nat,y=d.toNat % 64:=⟨_,rfl⟩;rw [←v] at F;have p:=Lh v;have i:I<64:=by omega
 clear v;obtain ⟨M,N,z⟩:=jP k I (by omega) i;obtain ⟨H,t⟩:∃ r:Nat,r=k*64+I:=⟨_,rfl⟩;rw [←t] at z;have n:=Lh t;have a4:H<1024:=by omega
 clear t;have G:=jN b;obtain ⟨J,x⟩:∃ y:Nat,y=b.toNat % 64:=⟨_,rfl⟩;rw [←x] at G;have q:=Lh x;have j:J<64:=by omega
 clear x;obtain ⟨O,P,A⟩:=jP H J (by omega) j;obtain ⟨a,u⟩:∃ r:Nat,r=H*64+J:=⟨_,rfl⟩;rw [←u] at A;have o:=Lh u;have a5:a<65536:=by omega
 clear u;have g:a=((c.toNat % 16)*64+d.toNat % 64)*64+b.toNat % 64:=by
  have a0:=m.o;have a1:=n.o;have b1:=p.o;have a2:=o.o;have b2:=q.o;omega
 rw [←g] at hr;have L:=Lh g;clear g;first|have:((a:Int)<2048):=by omega|have:¬ (((a:Int)<2048)):=by omega
 first|have:((55296:Int)≤(a:Int)):=by omega|have:¬ (((55296:Int)≤(a:Int))):=by omega
 first|have:((a:Int)<57344):=by omega|have:¬ (((a:Int)<57344)):=by omega
 first|have:((a:Int)<65536):=by omega|have:¬ (((a:Int)<65536)):=by omega
 first|have:((1114111:Int)<(a:Int)):=by omega|have:¬ (((1114111:Int)<(a:Int))):=by omega
 refine eL 92 func58 [_] fun f=>?_;simp only [aF];refine vg ?_;intro K hK;refine wp_loop_rounds 3 ?_;rw [rounds_succ];revert K;refine vg ?_;intro K hK;rw [rounds_succ];revert K;refine vg ?_;intro K hK;rw [rounds_succ];revert K;refine vg ?_;intro K hK;refine kW ?_;refine ⟨?_,rfl⟩;rfl
theorem RK (l:Bs) (c d b:UInt8) (w:World) (T:3≤l.length) (i0:∀ h,(⟨l.toArray⟩:ByteArray)[0]'h=c) (i1:∀ h,(⟨l.toArray⟩:ByteArray)[1]'h=d) (i2:∀ h,(⟨l.toArray⟩:ByteArray)[2]'h=b) (R:224≤c.toNat∧c.toNat<240) (E:d.toNat / 64=2) (F:b.toNat / 64=2) (m:((2048≤(((c.toNat % 16)*64+d.toNat % 64)*64+b.toNat % 64)∧(((c.toNat % 16)*64+d.toNat % 64)*64+b.toNat % 64)<55296)∨57344≤(((c.toNat % 16)*64+d.toNat % 64)*64+b.toNat % 64))) :
  Calls prog 58 #[(.string ⟨l.toArray⟩)] w fun e w'=>e=.returned (.tuple #[.int .i64 ((((c.toNat % 16)*64+d.toNat % 64)*64+b.toNat % 64:Nat):Int),.int .i64 3])∧w=w':=by
 obtain ⟨q0,q1,q2,q3,q4,q5,q6,S,G⟩:=XV R;obtain ⟨he,U,aA⟩:=DB T;have X:¬ ((l.length:Int)<3):=by omega
 have aC:1<l.length:=by omega
 have V:(1:Int)<(l.length:Int):=by omega
 have Y:=eX d E;have a3:2<l.length:=by omega
 have W:(2:Int)<(l.length:Int):=by omega
 have Z:=eX b F;have a7:IntKind.i64.wrap 2=2:=rfl;have a8:IntKind.i64.wrap 3=3:=rfl;have a9:IntKind.i64.wrap 4=4:=rfl;have D:=(iK c).2.1;obtain ⟨k,u⟩:∃ k:Nat,k=c.toNat % 16:=⟨_,rfl⟩;rw [←u] at D;have n:=Lh u;have a4:k<16:=by omega
 clear u;have H:=jN d;obtain ⟨L,z⟩:∃ y:Nat,y=d.toNat % 64:=⟨_,rfl⟩;rw [←z] at H;have q:=Lh z;have i:L<64:=by omega
 clear z;obtain ⟨N,O,B⟩:=jP k L (by omega) i;obtain ⟨J,v⟩:∃ r:Nat,r=k*64+L:=⟨_,rfl⟩;rw [←v] at B;have o:=Lh v;have a5:J<1024:=by omega
 clear v;have I:=jN b;obtain ⟨M,A⟩:∃ y:Nat,y=b.toNat % 64:=⟨_,rfl⟩;rw [←A] at I;have s:=Lh A;have j:M<64:=by omega
 clear A;obtain ⟨P,Q,C⟩:=jP J M (by omega) j;obtain ⟨a,x⟩:∃ r:Nat,r=J*64+M:=⟨_,rfl⟩;rw [←x] at C;have p:=Lh x;have a6:a<65536:=by omega
 clear x;have g:a=((c.toNat % 16)*64+d.toNat % 64)*64+b.toNat % 64:=by
  have a0:=n.o;have a1:=o.o;have b1:=q.o;have a2:=p.o;have b2:=s.o;omega
 rw [←g] at m;have t:=Lh g;clear g;rcases m with m|m
 all_goals
  first|have:((a:Int)<2048):=by omega|have:¬ (((a:Int)<2048)):=by omega
  first|have:((55296:Int)≤(a:Int)):=by omega|have:¬ (((55296:Int)≤(a:Int))):=by omega
  first|have:((a:Int)<57344):=by omega|have:¬ (((a:Int)<57344)):=by omega
  first|have:((a:Int)<65536):=by omega|have:¬ (((a:Int)<65536)):=by omega
  first|have:((1114111:Int)<(a:Int)):=by omega|have:¬ (((1114111:Int)<(a:Int))):=by omega
  refine eL 92 func58 [_] fun f=>?_;simp only [aF];refine vg ?_;intro K hK;refine wp_loop_rounds 3 ?_;rw [rounds_succ];revert K;refine vg ?_;intro K hK;rw [rounds_succ];revert K;refine vg ?_;intro K hK;rw [rounds_succ];revert K;refine vg ?_;refine kW ?_;refine ⟨?_,rfl⟩;rw [←t.o]
theorem F2 (l:Bs) (c:UInt8) (w:World) (g:1≤l.length) (n:l.length<4) (o:∀ h,(⟨l.toArray⟩:ByteArray)[0]'h=c) (b:240≤c.toNat∧c.toNat<245) :
  Calls prog 58 #[(.string ⟨l.toArray⟩)] w fun e w'=>e=.returned (.tuple #[.int .i64 0,.int .i64 0])∧w=w':=by
 obtain ⟨p,q,r,s,t,u,v,d,a⟩:=VI b;obtain ⟨m,i,k⟩:=DB g;have j:(l.length:Int)<4:=by omega
 refine eL 92 func58 [_] fun f=>?_;simp only [aF];refine vg ?_;intro K hK;refine kW ?_;exact ⟨rfl,rfl⟩
theorem KK (l:Bs) (c d:UInt8) (w:World) (o:4≤l.length) (B:∀ h,(⟨l.toArray⟩:ByteArray)[0]'h=c) (C:∀ h,(⟨l.toArray⟩:ByteArray)[1]'h=d) (m:240≤c.toNat∧c.toNat<245) (g:d.toNat / 64≠2) :
  Calls prog 58 #[(.string ⟨l.toArray⟩)] w fun e w'=>e=.returned (.tuple #[.int .i64 0,.int .i64 0])∧w=w':=by
 obtain ⟨D,E,F,G,H,I,J,n,i⟩:=VI m;obtain ⟨A,p,t⟩:=DB o;have r:¬ ((l.length:Int)<4):=by omega
 have u:1<l.length:=by omega
 have q:(1:Int)<(l.length:Int):=by omega
 have s:=qZ d g;have x:IntKind.i64.wrap 2=2:=rfl;have y:IntKind.i64.wrap 3=3:=rfl;have z:IntKind.i64.wrap 4=4:=rfl;have b:=(iK c).2.2;obtain ⟨j,a⟩:∃ j:Nat,j=c.toNat % 8:=⟨_,rfl⟩;rw [←a] at b;have k:=Lh a;have v:j<8:=by omega
 clear a;refine eL 92 func58 [_] fun f=>?_;simp only [aF];refine vg ?_;intro K hK;refine wp_loop_rounds 1 ?_;rw [rounds_succ];revert K;refine vg ?_;intro K hK K hK K hK;refine kW ?_;exact ⟨rfl,rfl⟩
theorem KL (l:Bs) (c d b:UInt8) (w:World) (D:4≤l.length) (V:∀ h,(⟨l.toArray⟩:ByteArray)[0]'h=c) (W:∀ h,(⟨l.toArray⟩:ByteArray)[1]'h=d) (X:∀ h,(⟨l.toArray⟩:ByteArray)[2]'h=b) (B:240≤c.toNat∧c.toNat<245) (o:d.toNat / 64=2) (p:b.toNat / 64≠2) :
  Calls prog 58 #[(.string ⟨l.toArray⟩)] w fun e w'=>e=.returned (.tuple #[.int .i64 0,.int .i64 0])∧w=w':=by
 obtain ⟨Y,Z,q2,q3,q4,q5,q6,C,q⟩:=VI B;obtain ⟨U,E,L⟩:=DB D;have H:¬ ((l.length:Int)<4):=by omega
 have M:1<l.length:=by omega
 have F:(1:Int)<(l.length:Int):=by omega
 have I:=eX d o;have N:2<l.length:=by omega
 have G:(2:Int)<(l.length:Int):=by omega
 have J:=qZ b p;have Q:IntKind.i64.wrap 2=2:=rfl;have R:IntKind.i64.wrap 3=3:=rfl;have S:IntKind.i64.wrap 4=4:=rfl;have n:=(iK c).2.2;obtain ⟨g,i⟩:∃ g:Nat,g=c.toNat % 8:=⟨_,rfl⟩;rw [←i] at n;have u:=Lh i;have O:g<8:=by omega
 clear i;have s:=jN d;obtain ⟨t,k⟩:∃ y:Nat,y=d.toNat % 64:=⟨_,rfl⟩;rw [←k] at s;have x:=Lh k;have a:t<64:=by omega
 clear k;obtain ⟨z,A,m⟩:=jP g t (by omega) a;obtain ⟨T,j⟩:∃ r:Nat,r=g*64+t:=⟨_,rfl⟩;rw [←j] at m;have v:=Lh j;have P:T<512:=by omega
 clear j;refine eL 92 func58 [_] fun f=>?_;simp only [aF];refine vg ?_;intro K hK;refine wp_loop_rounds 2 ?_;rw [rounds_succ];revert K;refine vg ?_;intro K hK;rw [rounds_succ];revert K;refine vg ?_;intro K hK K hK K hK;refine kW ?_;exact ⟨rfl,rfl⟩
theorem KM (l:Bs) (c d b g:UInt8) (w:World) (R:4≤l.length) (i0:∀ h,(⟨l.toArray⟩:ByteArray)[0]'h=c) (i1:∀ h,(⟨l.toArray⟩:ByteArray)[1]'h=d) (i2:∀ h,(⟨l.toArray⟩:ByteArray)[2]'h=b) (i3:∀ h,(⟨l.toArray⟩:ByteArray)[3]'h=g) (P:240≤c.toNat∧c.toNat<245) (u:d.toNat / 64=2) (v:b.toNat / 64=2) (x:g.toNat / 64≠2) :
  Calls prog 58 #[(.string ⟨l.toArray⟩)] w fun e w'=>e=.returned (.tuple #[.int .i64 0,.int .i64 0])∧w=w':=by
 obtain ⟨q0,q1,q2,q3,q4,q5,q6,Q,z⟩:=VI P;obtain ⟨he,S,aA⟩:=DB R;have W:¬ ((l.length:Int)<4):=by omega
 have aC:1<l.length:=by omega
 have T:(1:Int)<(l.length:Int):=by omega
 have X:=eX d u;have a0:2<l.length:=by omega
 have U:(2:Int)<(l.length:Int):=by omega
 have Y:=eX b v;have a1:3<l.length:=by omega
 have V:(3:Int)<(l.length:Int):=by omega
 have Z:=qZ g x;have a5:IntKind.i64.wrap 2=2:=rfl;have a6:IntKind.i64.wrap 3=3:=rfl;have a7:IntKind.i64.wrap 4=4:=rfl;have t:=(iK c).2.2;obtain ⟨j,k⟩:∃ j:Nat,j=c.toNat % 8:=⟨_,rfl⟩;rw [←k] at t;have F:=Lh k;have a2:j<8:=by omega
 clear k;have A:=jN d;obtain ⟨D,o⟩:∃ y:Nat,y=d.toNat % 64:=⟨_,rfl⟩;rw [←o] at A;have I:=Lh o;have a:D<64:=by omega
 clear o;obtain ⟨L,M,q⟩:=jP j D (by omega) a;obtain ⟨C,m⟩:∃ r:Nat,r=j*64+D:=⟨_,rfl⟩;rw [←m] at q;have G:=Lh m;have a3:C<512:=by omega
 clear m;have B:=jN b;obtain ⟨E,p⟩:∃ y:Nat,y=b.toNat % 64:=⟨_,rfl⟩;rw [←p] at B;have J:=Lh p;have i:E<64:=by omega
 clear p;obtain ⟨N,O,s⟩:=jP C E (by omega) i;obtain ⟨r2,n⟩:∃ r:Nat,r=C*64+E:=⟨_,rfl⟩;rw [←n] at s;have H:=Lh n;have a4:r2<32768:=by omega
 clear n;refine eL 92 func58 [_] fun f=>?_;simp only [aF];refine vg ?_;intro K hK;refine wp_loop_rounds 3 ?_;rw [rounds_succ];revert K;refine vg ?_;intro K hK;rw [rounds_succ];revert K;refine vg ?_;intro K hK;rw [rounds_succ];revert K;refine vg ?_;intro K hK K hK K hK;refine kW ?_;exact ⟨rfl,rfl⟩
theorem KN (l:Bs) (c d b g:UInt8) (w:World) (hl:4≤l.length) (i0:∀ h,(⟨l.toArray⟩:ByteArray)[0]'h=c) (i1:∀ h,(⟨l.toArray⟩:ByteArray)[1]'h=d) (i2:∀ h,(⟨l.toArray⟩:ByteArray)[2]'h=b) (i3:∀ h,(⟨l.toArray⟩:ByteArray)[3]'h=g) (hc:240≤c.toNat∧c.toNat<245) (J:d.toNat / 64=2) (L:b.toNat / 64=2) (M:g.toNat / 64=2) (hr:((((c.toNat % 8)*64+d.toNat % 64)*64+b.toNat % 64)*64+g.toNat % 64)<65536) :
  Calls prog 58 #[(.string ⟨l.toArray⟩)] w fun e w'=>e=.returned (.tuple #[.int .i64 0,.int .i64 0])∧w=w':=by
 obtain ⟨q0,q1,q2,q3,q4,q5,q6,a5,N⟩:=VI hc;obtain ⟨he,a6,b5⟩:=DB hl;have bA:¬ ((l.length:Int)<4):=by omega
 have b6:1<l.length:=by omega
 have a7:(1:Int)<(l.length:Int):=by omega
 have bC:=eX d J;have b7:2<l.length:=by omega
 have a8:(2:Int)<(l.length:Int):=by omega
 have b0:=eX b L;have b9:3<l.length:=by omega
 have a9:(3:Int)<(l.length:Int):=by omega
 have b4:=eX g M;have c4:IntKind.i64.wrap 2=2:=rfl;have c5:IntKind.i64.wrap 3=3:=rfl;have c6:IntKind.i64.wrap 4=4:=rfl;have I:=(iK c).2.2;obtain ⟨n,x⟩:∃ n:Nat,n=c.toNat % 8:=⟨_,rfl⟩;rw [←x] at I;have o:=Lh x;have cT:n<8:=by omega
 clear x;have O:=jN d;obtain ⟨T,C⟩:∃ y:Nat,y=d.toNat % 64:=⟨_,rfl⟩;rw [←C] at O;have t:=Lh C;have j:T<64:=by omega
 clear C;obtain ⟨X,Y,F⟩:=jP n T (by omega) j;obtain ⟨R,z⟩:∃ r:Nat,r=n*64+T:=⟨_,rfl⟩;rw [←z] at F;have p:=Lh z;have c1:R<512:=by omega
 clear z;have P:=jN b;obtain ⟨U,D⟩:∃ y:Nat,y=b.toNat % 64:=⟨_,rfl⟩;rw [←D] at P;have u:=Lh D;have k:U<64:=by omega
 clear D;obtain ⟨Z,aA,G⟩:=jP R U (by omega) k;obtain ⟨S,A⟩:∃ r:Nat,r=R*64+U:=⟨_,rfl⟩;rw [←A] at G;have q:=Lh A;have c2:S<32768:=by omega
 clear A;have Q:=jN g;obtain ⟨V,E⟩:∃ y:Nat,y=g.toNat % 64:=⟨_,rfl⟩;rw [←E] at Q;have v:=Lh E;have m:V<64:=by omega
 clear E;obtain ⟨aC,a4,H⟩:=jP S V (by omega) m;obtain ⟨i,B⟩:∃ r:Nat,r=S*64+V:=⟨_,rfl⟩;rw [←B] at H;have s:=Lh B;have c3:i<2097152:=by omega
 clear B;have a:i=(((c.toNat % 8)*64+d.toNat % 64)*64+b.toNat % 64)*64+g.toNat % 64:=by
  have a0:=o.o;have a1:=p.o;have b1:=t.o;have a2:=q.o;have b2:=u.o;have a3:=s.o;have b3:=v.o;omega
 rw [←a] at hr;have W:=Lh a;clear a;first|have:((i:Int)<65536):=by omega|have:¬ (((i:Int)<65536)):=by omega
 first|have:((1114111:Int)<(i:Int)):=by omega|have:¬ (((1114111:Int)<(i:Int))):=by omega
 refine eL 92 func58 [_] fun f=>?_;simp only [aF];refine vg ?_;intro K hK;refine wp_loop_rounds 4 ?_;rw [rounds_succ];revert K;refine vg ?_;intro K hK;rw [rounds_succ];revert K;refine vg ?_;intro K hK;rw [rounds_succ];revert K;refine vg ?_;intro K hK;rw [rounds_succ];revert K;refine vg ?_;intro K hK;refine kW ?_;refine ⟨?_,rfl⟩;rfl
theorem F3 (l:Bs) (c d b g:UInt8) (w:World) (hl:4≤l.length) (i0:∀ h,(⟨l.toArray⟩:ByteArray)[0]'h=c) (i1:∀ h,(⟨l.toArray⟩:ByteArray)[1]'h=d) (i2:∀ h,(⟨l.toArray⟩:ByteArray)[2]'h=b) (i3:∀ h,(⟨l.toArray⟩:ByteArray)[3]'h=g) (hc:240≤c.toNat∧c.toNat<245) (J:d.toNat / 64=2) (L:b.toNat / 64=2) (M:g.toNat / 64=2) (hr:1114111<((((c.toNat % 8)*64+d.toNat % 64)*64+b.toNat % 64)*64+g.toNat % 64)) :
  Calls prog 58 #[(.string ⟨l.toArray⟩)] w fun e w'=>e=.returned (.tuple #[.int .i64 0,.int .i64 0])∧w=w':=by
 obtain ⟨q0,q1,q2,q3,q4,q5,q6,a5,N⟩:=VI hc;obtain ⟨he,a6,b5⟩:=DB hl;have bA:¬ ((l.length:Int)<4):=by omega
 have b6:1<l.length:=by omega
 have a7:(1:Int)<(l.length:Int):=by omega
 have bC:=eX d J;have b7:2<l.length:=by omega
 have a8:(2:Int)<(l.length:Int):=by omega
 have b0:=eX b L;have b9:3<l.length:=by omega
 have a9:(3:Int)<(l.length:Int):=by omega
 have b4:=eX g M;have c4:IntKind.i64.wrap 2=2:=rfl;have c5:IntKind.i64.wrap 3=3:=rfl;have c6:IntKind.i64.wrap 4=4:=rfl;have I:=(iK c).2.2;obtain ⟨n,x⟩:∃ n:Nat,n=c.toNat % 8:=⟨_,rfl⟩;rw [←x] at I;have o:=Lh x;have cT:n<8:=by omega
 clear x;have O:=jN d;obtain ⟨T,C⟩:∃ y:Nat,y=d.toNat % 64:=⟨_,rfl⟩;rw [←C] at O;have t:=Lh C;have j:T<64:=by omega
 clear C;obtain ⟨X,Y,F⟩:=jP n T (by omega) j;obtain ⟨R,z⟩:∃ r:Nat,r=n*64+T:=⟨_,rfl⟩;rw [←z] at F;have p:=Lh z;have c1:R<512:=by omega
 clear z;have P:=jN b;obtain ⟨U,D⟩:∃ y:Nat,y=b.toNat % 64:=⟨_,rfl⟩;rw [←D] at P;have u:=Lh D;have k:U<64:=by omega
 clear D;obtain ⟨Z,aA,G⟩:=jP R U (by omega) k;obtain ⟨S,A⟩:∃ r:Nat,r=R*64+U:=⟨_,rfl⟩;rw [←A] at G;have q:=Lh A;have c2:S<32768:=by omega
 clear A;have Q:=jN g;obtain ⟨V,E⟩:∃ y:Nat,y=g.toNat % 64:=⟨_,rfl⟩;rw [←E] at Q;have v:=Lh E;have m:V<64:=by omega
 clear E;obtain ⟨aC,a4,H⟩:=jP S V (by omega) m;obtain ⟨i,B⟩:∃ r:Nat,r=S*64+V:=⟨_,rfl⟩;rw [←B] at H;have s:=Lh B;have c3:i<2097152:=by omega
 clear B;have a:i=(((c.toNat % 8)*64+d.toNat % 64)*64+b.toNat % 64)*64+g.toNat % 64:=by
  have a0:=o.o;have a1:=p.o;have b1:=t.o;have a2:=q.o;have b2:=u.o;have a3:=s.o;have b3:=v.o;omega
 rw [←a] at hr;have W:=Lh a;clear a;first|have:((i:Int)<65536):=by omega|have:¬ (((i:Int)<65536)):=by omega
 first|have:((1114111:Int)<(i:Int)):=by omega|have:¬ (((1114111:Int)<(i:Int))):=by omega
 refine eL 92 func58 [_] fun f=>?_;simp only [aF];refine vg ?_;intro K hK;refine wp_loop_rounds 4 ?_;rw [rounds_succ];revert K;refine vg ?_;intro K hK;rw [rounds_succ];revert K;refine vg ?_;intro K hK;rw [rounds_succ];revert K;refine vg ?_;intro K hK;rw [rounds_succ];revert K;refine vg ?_;intro K hK;refine kW ?_;refine ⟨?_,rfl⟩;rfl
theorem RL (l:Bs) (c d b g:UInt8) (w:World) (hl:4≤l.length) (i0:∀ h,(⟨l.toArray⟩:ByteArray)[0]'h=c) (i1:∀ h,(⟨l.toArray⟩:ByteArray)[1]'h=d) (i2:∀ h,(⟨l.toArray⟩:ByteArray)[2]'h=b) (i3:∀ h,(⟨l.toArray⟩:ByteArray)[3]'h=g) (hc:240≤c.toNat∧c.toNat<245) (L:d.toNat / 64=2) (M:b.toNat / 64=2) (N:g.toNat / 64=2) (hr:(65536≤((((c.toNat % 8)*64+d.toNat % 64)*64+b.toNat % 64)*64+g.toNat % 64)∧((((c.toNat % 8)*64+d.toNat % 64)*64+b.toNat % 64)*64+g.toNat % 64)≤1114111)) :
  Calls prog 58 #[(.string ⟨l.toArray⟩)] w fun e w'=>e=.returned (.tuple #[.int .i64 (((((c.toNat % 8)*64+d.toNat % 64)*64+b.toNat % 64)*64+g.toNat % 64:Nat):Int),.int .i64 4])∧w=w':=by
 obtain ⟨q0,q1,q2,q3,q4,q5,q6,a5,O⟩:=VI hc;obtain ⟨he,a6,b5⟩:=DB hl;have bA:¬ ((l.length:Int)<4):=by omega
 have b6:1<l.length:=by omega
 have a7:(1:Int)<(l.length:Int):=by omega
 have bC:=eX d L;have b7:2<l.length:=by omega
 have a8:(2:Int)<(l.length:Int):=by omega
 have b0:=eX b M;have b9:3<l.length:=by omega
 have a9:(3:Int)<(l.length:Int):=by omega
 have b4:=eX g N;have c4:IntKind.i64.wrap 2=2:=rfl;have c5:IntKind.i64.wrap 3=3:=rfl;have c6:IntKind.i64.wrap 4=4:=rfl;have J:=(iK c).2.2;obtain ⟨n,z⟩:∃ n:Nat,n=c.toNat % 8:=⟨_,rfl⟩;rw [←z] at J;have o:=Lh z;have cT:n<8:=by omega
 clear z;have P:=jN d;obtain ⟨U,D⟩:∃ y:Nat,y=d.toNat % 64:=⟨_,rfl⟩;rw [←D] at P;have t:=Lh D;have j:U<64:=by omega
 clear D;obtain ⟨X,Y,G⟩:=jP n U (by omega) j;obtain ⟨S,A⟩:∃ r:Nat,r=n*64+U:=⟨_,rfl⟩;rw [←A] at G;have p:=Lh A;have c1:S<512:=by omega
 clear A;have Q:=jN b;obtain ⟨V,E⟩:∃ y:Nat,y=b.toNat % 64:=⟨_,rfl⟩;rw [←E] at Q;have u:=Lh E;have k:V<64:=by omega
 clear E;obtain ⟨Z,aA,H⟩:=jP S V (by omega) k;obtain ⟨T,B⟩:∃ r:Nat,r=S*64+V:=⟨_,rfl⟩;rw [←B] at H;have q:=Lh B;have c2:T<32768:=by omega
 clear B;have R:=jN g;obtain ⟨W,F⟩:∃ y:Nat,y=g.toNat % 64:=⟨_,rfl⟩;rw [←F] at R;have v:=Lh F;have m:W<64:=by omega
 clear F;obtain ⟨aC,a4,I⟩:=jP T W (by omega) m;obtain ⟨i,C⟩:∃ r:Nat,r=T*64+W:=⟨_,rfl⟩;rw [←C] at I;have s:=Lh C;have c3:i<2097152:=by omega
 clear C;have a:i=(((c.toNat % 8)*64+d.toNat % 64)*64+b.toNat % 64)*64+g.toNat % 64:=by
  have a0:=o.o;have a1:=p.o;have b1:=t.o;have a2:=q.o;have b2:=u.o;have a3:=s.o;have b3:=v.o;omega
 rw [←a] at hr;have x:=Lh a;clear a;first|have:((i:Int)<65536):=by omega|have:¬ (((i:Int)<65536)):=by omega
 first|have:((1114111:Int)<(i:Int)):=by omega|have:¬ (((1114111:Int)<(i:Int))):=by omega
 refine eL 92 func58 [_] fun f=>?_;simp only [aF];refine vg ?_;intro K hK;refine wp_loop_rounds 4 ?_;rw [rounds_succ];revert K;refine vg ?_;intro K hK;rw [rounds_succ];revert K;refine vg ?_;intro K hK;rw [rounds_succ];revert K;refine vg ?_;intro K hK;rw [rounds_succ];revert K;refine vg ?_;refine kW ?_;refine ⟨?_,rfl⟩;rw [←x.o]
end Go.Proofs.YthapcchcahnfaaaGreatDoor
