/- Part of the proof that laws.FnWithin returns true for every argument. No conditions. -/
import Derived.Test.YthapcchcahnfaaaGreatDoorQ03
import Derived.Test.YthapcchcahnfaaaGreatDoorQ04
import Derived.Laws.BitsLemmas
import Derived.LoopN
import Derived.OrdersHeld
set_option linter.all false
set_option maxHeartbeats 8000000
set_option maxRecDepth 100000
namespace Go.Proofs.YthapcchcahnfaaaGreatDoor
open Go Go.RowKit Go.Proofs.Tryz
theorem OG (d:UInt8):bits .and .u8 (d.toNat:Int) 192=((d.toNat / 64*64:Nat):Int):=by
 have h:=(bits_nat .u8 8 (by decide) wraps_u8 d.toNat 192 (by have:=d.toNat_lt;omega) (by decide)).1;have k:∀ n:Fin 256,n.val &&& 192=n.val / 64*64:=by decide
 have:=k ⟨d.toNat,d.toNat_lt⟩;simp only at this;rw [←this];exact h
theorem fE (d:UInt8) (h:d.toNat / 64=2):(bits .and .u8 (d.toNat:Int) 192 != 128)=false:=by
 rw [OG,h];rfl
theorem rA (d:UInt8) (h:d.toNat / 64≠2):(bits .and .u8 (d.toNat:Int) 192 != 128)=true:=by
 rw [OG];simp only [bne_iff_ne,ne_eq];omega
theorem jP (d:UInt8):bits .and .u8 (d.toNat:Int) 63=((d.toNat % 64:Nat):Int):=by
 have:=u8_and63 d.toNat (by omega) (by have:=d.toNat_lt;omega);rw [this];rfl
theorem jQ (n:Int) (a:0≤n) (b:n<2 ^ 60):IntKind.i64.wrap n=n:=by rw [IntKind.wrap_i64];omega
theorem iQ (c:UInt8):bits .and .i64 (c.toNat:Int) 31=((c.toNat % 32:Nat):Int)∧bits .and .i64 (c.toNat:Int) 15=((c.toNat % 16:Nat):Int)∧bits .and .i64 (c.toNat:Int) 7=((c.toNat % 8:Nat):Int):=by
 have b:(c.toNat:Int)<2 ^ 60:=by have:=c.toNat_lt;omega
 have a:(0:Int)≤(c.toNat:Int):=by omega
 have f:=bits_mask .i64 60 (by decide) jQ 5 (by decide) _ a b;have e:=bits_mask .i64 60 (by decide) jQ 4 (by decide) _ a b;have d:=bits_mask .i64 60 (by decide) jQ 3 (by decide) _ a b;exact ⟨f,e,d⟩
theorem jR (r y:Nat) (a:r<2 ^ 30) (b:y<64):IntKind.i64.wrap ((r:Int)*64)=(r:Int)*64∧IntKind.i64.wrap (y:Int)=(y:Int)∧bits .or .i64 ((r:Int)*64) (y:Int)=((r*64+y:Nat):Int):=by
 refine ⟨jQ _ (by omega) (by omega),jQ _ (by omega) (by omega),?_⟩;rw [bits_join .i64 60 (by decide) jQ 6 _ _ (by omega) (by omega) (by omega) (by omega) (by omega) (by omega)]
 push_cast;rfl
theorem Cd {c:UInt8} (h:c.toNat<128):((c.toNat:Int)<128)∧¬ ((194:Int)≤(c.toNat:Int))∧((c.toNat:Int)<224)∧¬ ((224:Int)≤(c.toNat:Int))∧((c.toNat:Int)<240)∧¬ ((240:Int)≤(c.toNat:Int))∧((c.toNat:Int)<245)∧IntKind.i64.wrap (c.toNat:Int)=(c.toNat:Int)∧c.toNat<256:=by
 have:=c.toNat_lt;have a:IntKind.i64.wrap (c.toNat:Int)=(c.toNat:Int):=by rw [IntKind.wrap_i64];omega
 refine ⟨?_,?_,?_,?_,?_,?_,?_,a,this⟩<;>omega
theorem Bb {c:UInt8} (h:194≤c.toNat∧c.toNat<224):¬ ((c.toNat:Int)<128)∧((194:Int)≤(c.toNat:Int))∧((c.toNat:Int)<224)∧¬ ((224:Int)≤(c.toNat:Int))∧((c.toNat:Int)<240)∧¬ ((240:Int)≤(c.toNat:Int))∧((c.toNat:Int)<245)∧IntKind.i64.wrap (c.toNat:Int)=(c.toNat:Int)∧c.toNat<256:=by
 have:=c.toNat_lt;have a:IntKind.i64.wrap (c.toNat:Int)=(c.toNat:Int):=by rw [IntKind.wrap_i64];omega
 refine ⟨?_,?_,?_,?_,?_,?_,?_,a,this⟩<;>omega
theorem YA {c:UInt8} (h:224≤c.toNat∧c.toNat<240):¬ ((c.toNat:Int)<128)∧((194:Int)≤(c.toNat:Int))∧¬ ((c.toNat:Int)<224)∧((224:Int)≤(c.toNat:Int))∧((c.toNat:Int)<240)∧¬ ((240:Int)≤(c.toNat:Int))∧((c.toNat:Int)<245)∧IntKind.i64.wrap (c.toNat:Int)=(c.toNat:Int)∧c.toNat<256:=by
 have:=c.toNat_lt;have a:IntKind.i64.wrap (c.toNat:Int)=(c.toNat:Int):=by rw [IntKind.wrap_i64];omega
 refine ⟨?_,?_,?_,?_,?_,?_,?_,a,this⟩<;>omega
theorem V9 {c:UInt8} (h:240≤c.toNat∧c.toNat<245):¬ ((c.toNat:Int)<128)∧((194:Int)≤(c.toNat:Int))∧¬ ((c.toNat:Int)<224)∧((224:Int)≤(c.toNat:Int))∧¬ ((c.toNat:Int)<240)∧((240:Int)≤(c.toNat:Int))∧((c.toNat:Int)<245)∧IntKind.i64.wrap (c.toNat:Int)=(c.toNat:Int)∧c.toNat<256:=by
 have:=c.toNat_lt;have a:IntKind.i64.wrap (c.toNat:Int)=(c.toNat:Int):=by rw [IntKind.wrap_i64];omega
 refine ⟨?_,?_,?_,?_,?_,?_,?_,a,this⟩<;>omega
theorem DP {l:Bs} {k:Nat} (h:k+1≤l.length):l.isEmpty=false∧(0:Int)<(l.length:Int)∧0<l.length:=by
 refine ⟨?_,by omega,by omega⟩;cases l with
 | nil=>simp at h
 | cons=>rfl
theorem KQ (l:Bs) (c:UInt8) (w:World) (g:1≤l.length) (m:∀ h,(⟨l.toArray⟩:ByteArray)[0]'h=c) (b:c.toNat<128) :
  Calls prog 58 #[(.string ⟨l.toArray⟩)] w fun e w'=>e=.returned (.tuple #[.int .i64 (c.toNat:Int),.int .i64 1])∧w=w':=by
 obtain ⟨n,o,p,q,r,s,t,d,a⟩:=Cd b;obtain ⟨k,i,j⟩:=DP g;refine eT 92 func58 [_] fun f=>?_;simp only [aF];refine vg ?_;intro K hK;refine jV ?_;exact ⟨rfl,rfl⟩
theorem OH (l:Bs) (c:UInt8) (w:World) (g:1≤l.length) (m:∀ h,(⟨l.toArray⟩:ByteArray)[0]'h=c) (a:(128≤c.toNat∧c.toNat<194)∨245≤c.toNat) :
  Calls prog 58 #[(.string ⟨l.toArray⟩)] w fun e w'=>e=.returned (.tuple #[.int .i64 0,.int .i64 0])∧w=w':=by
 rcases a with a|a
 all_goals
  have b:=c.toNat_lt;first|have:((c.toNat:Int)<128):=by omega|have:¬ (((c.toNat:Int)<128)):=by omega
  first|have:((194:Int)≤(c.toNat:Int)):=by omega|have:¬ (((194:Int)≤(c.toNat:Int))):=by omega
  first|have:((c.toNat:Int)<224):=by omega|have:¬ (((c.toNat:Int)<224)):=by omega
  first|have:((224:Int)≤(c.toNat:Int)):=by omega|have:¬ (((224:Int)≤(c.toNat:Int))):=by omega
  first|have:((c.toNat:Int)<240):=by omega|have:¬ (((c.toNat:Int)<240)):=by omega
  first|have:((240:Int)≤(c.toNat:Int)):=by omega|have:¬ (((240:Int)≤(c.toNat:Int))):=by omega
  first|have:((c.toNat:Int)<245):=by omega|have:¬ (((c.toNat:Int)<245)):=by omega
  have d:IntKind.i64.wrap (c.toNat:Int)=(c.toNat:Int):=by rw [IntKind.wrap_i64];omega
  have k:l.isEmpty=false:=by cases l with
   | nil=>simp at g
   | cons=>rfl
  have i:(0:Int)<(l.length:Int):=by omega
  have j:0<l.length:=by omega
  refine eT 92 func58 [_] fun f=>?_;simp only [aF];refine vg ?_;intro K hK;refine jV ?_;exact ⟨rfl,rfl⟩
theorem GC (l:Bs) (c:UInt8) (w:World) (g:1≤l.length) (n:l.length<2) (o:∀ h,(⟨l.toArray⟩:ByteArray)[0]'h=c) (b:194≤c.toNat∧c.toNat<224) :
  Calls prog 58 #[(.string ⟨l.toArray⟩)] w fun e w'=>e=.returned (.tuple #[.int .i64 0,.int .i64 0])∧w=w':=by
 obtain ⟨p,q,r,s,t,u,v,d,a⟩:=Bb b;obtain ⟨m,i,k⟩:=DP g;have j:(l.length:Int)<2:=by omega
 refine eT 92 func58 [_] fun f=>?_;simp only [aF];refine vg ?_;intro K hK;refine jV ?_;exact ⟨rfl,rfl⟩
theorem KR (l:Bs) (c d:UInt8) (w:World) (o:2≤l.length) (B:∀ h,(⟨l.toArray⟩:ByteArray)[0]'h=c) (C:∀ h,(⟨l.toArray⟩:ByteArray)[1]'h=d) (m:194≤c.toNat∧c.toNat<224) (g:d.toNat / 64≠2) :
  Calls prog 58 #[(.string ⟨l.toArray⟩)] w fun e w'=>e=.returned (.tuple #[.int .i64 0,.int .i64 0])∧w=w':=by
 obtain ⟨D,E,F,G,H,I,J,n,i⟩:=Bb m;obtain ⟨A,p,t⟩:=DP o;have r:¬ ((l.length:Int)<2):=by omega
 have u:1<l.length:=by omega
 have q:(1:Int)<(l.length:Int):=by omega
 have s:=rA d g;have x:IntKind.i64.wrap 2=2:=rfl;have y:IntKind.i64.wrap 3=3:=rfl;have z:IntKind.i64.wrap 4=4:=rfl;have b:=(iQ c).1;obtain ⟨j,a⟩:∃ j:Nat,j=c.toNat % 32:=⟨_,rfl⟩;rw [←a] at b;have k:=Lh a;have v:j<32:=by omega
 clear a;refine eT 92 func58 [_] fun f=>?_;simp only [aF];refine vg ?_;intro K hK;refine wp_loop_rounds 1 ?_;rw [rounds_succ];revert K;refine vg ?_;intro K hK K hK K hK;refine jV ?_;exact ⟨rfl,rfl⟩
theorem R3 (l:Bs) (c d:UInt8) (w:World) (E:2≤l.length) (V:∀ h,(⟨l.toArray⟩:ByteArray)[0]'h=c) (W:∀ h,(⟨l.toArray⟩:ByteArray)[1]'h=d) (C:194≤c.toNat∧c.toNat<224) (t:d.toNat / 64=2) (U:True) :
  Calls prog 58 #[(.string ⟨l.toArray⟩)] w fun e w'=>e=.returned (.tuple #[.int .i64 (((c.toNat % 32)*64+d.toNat % 64:Nat):Int),.int .i64 2])∧w=w':=by
 obtain ⟨X,Y,Z,q3,q4,q5,q6,D,u⟩:=Bb C;obtain ⟨T,F,J⟩:=DP E;have H:¬ ((l.length:Int)<2):=by omega
 have L:1<l.length:=by omega
 have G:(1:Int)<(l.length:Int):=by omega
 have I:=fE d t;have O:IntKind.i64.wrap 2=2:=rfl;have P:IntKind.i64.wrap 3=3:=rfl;have Q:IntKind.i64.wrap 4=4:=rfl;have s:=(iQ c).1;obtain ⟨g,n⟩:∃ g:Nat,g=c.toNat % 32:=⟨_,rfl⟩;rw [←n] at s;have i:=Lh n;have M:g<32:=by omega
 clear n;have v:=jP d;obtain ⟨x,p⟩:∃ y:Nat,y=d.toNat % 64:=⟨_,rfl⟩;rw [←p] at v;have k:=Lh p;have b:x<64:=by omega
 clear p;obtain ⟨A,B,q⟩:=jR g x (by omega) b;obtain ⟨z,o⟩:∃ r:Nat,r=g*64+x:=⟨_,rfl⟩;rw [←o] at q;have j:=Lh o;have N:z<2048:=by omega
 clear o;have a:z=(c.toNat % 32)*64+d.toNat % 64:=by
  have R:=i.o;have S:=j.o;have b1:=k.o;omega
 have m:=Lh a;clear a;refine eT 92 func58 [_] fun f=>?_;simp only [aF];refine vg ?_;intro K hK;refine wp_loop_rounds 2 ?_;rw [rounds_succ];revert K;refine vg ?_;intro K hK;rw [rounds_succ];revert K;refine vg ?_;refine jV ?_;refine ⟨?_,rfl⟩;rw [←m.o]
theorem GD (l:Bs) (c:UInt8) (w:World) (g:1≤l.length) (n:l.length<3) (o:∀ h,(⟨l.toArray⟩:ByteArray)[0]'h=c) (b:224≤c.toNat∧c.toNat<240) :
  Calls prog 58 #[(.string ⟨l.toArray⟩)] w fun e w'=>e=.returned (.tuple #[.int .i64 0,.int .i64 0])∧w=w':=by
 obtain ⟨p,q,r,s,t,u,v,d,a⟩:=YA b;obtain ⟨m,i,k⟩:=DP g;have j:(l.length:Int)<3:=by omega
 refine eT 92 func58 [_] fun f=>?_;simp only [aF];refine vg ?_;intro K hK;refine jV ?_;exact ⟨rfl,rfl⟩
theorem KS (l:Bs) (c d:UInt8) (w:World) (o:3≤l.length) (B:∀ h,(⟨l.toArray⟩:ByteArray)[0]'h=c) (C:∀ h,(⟨l.toArray⟩:ByteArray)[1]'h=d) (m:224≤c.toNat∧c.toNat<240) (g:d.toNat / 64≠2) :
  Calls prog 58 #[(.string ⟨l.toArray⟩)] w fun e w'=>e=.returned (.tuple #[.int .i64 0,.int .i64 0])∧w=w':=by
 obtain ⟨D,E,F,G,H,I,J,n,i⟩:=YA m;obtain ⟨A,p,t⟩:=DP o;have r:¬ ((l.length:Int)<3):=by omega
 have u:1<l.length:=by omega
 have q:(1:Int)<(l.length:Int):=by omega
 have s:=rA d g;have x:IntKind.i64.wrap 2=2:=rfl;have y:IntKind.i64.wrap 3=3:=rfl;have z:IntKind.i64.wrap 4=4:=rfl;have b:=(iQ c).2.1;obtain ⟨j,a⟩:∃ j:Nat,j=c.toNat % 16:=⟨_,rfl⟩;rw [←a] at b;have k:=Lh a;have v:j<16:=by omega
 clear a;refine eT 92 func58 [_] fun f=>?_;simp only [aF];refine vg ?_;intro K hK;refine wp_loop_rounds 1 ?_;rw [rounds_succ];revert K;refine vg ?_;intro K hK K hK K hK;refine jV ?_;exact ⟨rfl,rfl⟩
theorem KT (l:Bs) (c d b:UInt8) (w:World) (D:3≤l.length) (V:∀ h,(⟨l.toArray⟩:ByteArray)[0]'h=c) (W:∀ h,(⟨l.toArray⟩:ByteArray)[1]'h=d) (X:∀ h,(⟨l.toArray⟩:ByteArray)[2]'h=b) (B:224≤c.toNat∧c.toNat<240) (o:d.toNat / 64=2) (p:b.toNat / 64≠2) :
  Calls prog 58 #[(.string ⟨l.toArray⟩)] w fun e w'=>e=.returned (.tuple #[.int .i64 0,.int .i64 0])∧w=w':=by
 obtain ⟨Y,Z,q2,q3,q4,q5,q6,C,q⟩:=YA B;obtain ⟨U,E,L⟩:=DP D;have H:¬ ((l.length:Int)<3):=by omega
 have M:1<l.length:=by omega
 have F:(1:Int)<(l.length:Int):=by omega
 have I:=fE d o;have N:2<l.length:=by omega
 have G:(2:Int)<(l.length:Int):=by omega
 have J:=rA b p;have Q:IntKind.i64.wrap 2=2:=rfl;have R:IntKind.i64.wrap 3=3:=rfl;have S:IntKind.i64.wrap 4=4:=rfl;have n:=(iQ c).2.1;obtain ⟨g,i⟩:∃ g:Nat,g=c.toNat % 16:=⟨_,rfl⟩;rw [←i] at n;have u:=Lh i;have O:g<16:=by omega
 clear i;have s:=jP d;obtain ⟨t,k⟩:∃ y:Nat,y=d.toNat % 64:=⟨_,rfl⟩;rw [←k] at s;have x:=Lh k;have a:t<64:=by omega
 clear k;obtain ⟨z,A,m⟩:=jR g t (by omega) a;obtain ⟨T,j⟩:∃ r:Nat,r=g*64+t:=⟨_,rfl⟩;rw [←j] at m;have v:=Lh j;have P:T<1024:=by omega
 clear j;refine eT 92 func58 [_] fun f=>?_;simp only [aF];refine vg ?_;intro K hK;refine wp_loop_rounds 2 ?_;rw [rounds_succ];revert K;refine vg ?_;intro K hK;rw [rounds_succ];revert K;refine vg ?_;intro K hK K hK K hK;refine jV ?_;exact ⟨rfl,rfl⟩
theorem KU (l:Bs) (c d b:UInt8) (w:World) (S:3≤l.length) (i0:∀ h,(⟨l.toArray⟩:ByteArray)[0]'h=c) (i1:∀ h,(⟨l.toArray⟩:ByteArray)[1]'h=d) (i2:∀ h,(⟨l.toArray⟩:ByteArray)[2]'h=b) (Q:224≤c.toNat∧c.toNat<240) (C:d.toNat / 64=2) (D:b.toNat / 64=2) (hr:(((c.toNat % 16)*64+d.toNat % 64)*64+b.toNat % 64)<2048) :
  Calls prog 58 #[(.string ⟨l.toArray⟩)] w fun e w'=>e=.returned (.tuple #[.int .i64 0,.int .i64 0])∧w=w':=by
 obtain ⟨q0,q1,q2,q3,q4,q5,q6,R,E⟩:=YA Q;obtain ⟨he,T,Z⟩:=DP S;have W:¬ ((l.length:Int)<3):=by omega
 have aA:1<l.length:=by omega
 have U:(1:Int)<(l.length:Int):=by omega
 have X:=fE d C;have aC:2<l.length:=by omega
 have V:(2:Int)<(l.length:Int):=by omega
 have Y:=fE b D;have a6:IntKind.i64.wrap 2=2:=rfl;have a7:IntKind.i64.wrap 3=3:=rfl;have a8:IntKind.i64.wrap 4=4:=rfl;have B:=(iQ c).2.1;obtain ⟨k,s⟩:∃ k:Nat,k=c.toNat % 16:=⟨_,rfl⟩;rw [←s] at B;have m:=Lh s;have a3:k<16:=by omega
 clear s;have F:=jP d;obtain ⟨I,v⟩:∃ y:Nat,y=d.toNat % 64:=⟨_,rfl⟩;rw [←v] at F;have p:=Lh v;have i:I<64:=by omega
 clear v;obtain ⟨M,N,z⟩:=jR k I (by omega) i;obtain ⟨H,t⟩:∃ r:Nat,r=k*64+I:=⟨_,rfl⟩;rw [←t] at z;have n:=Lh t;have a4:H<1024:=by omega
 clear t;have G:=jP b;obtain ⟨J,x⟩:∃ y:Nat,y=b.toNat % 64:=⟨_,rfl⟩;rw [←x] at G;have q:=Lh x;have j:J<64:=by omega
 clear x;obtain ⟨O,P,A⟩:=jR H J (by omega) j;obtain ⟨a,u⟩:∃ r:Nat,r=H*64+J:=⟨_,rfl⟩;rw [←u] at A;have o:=Lh u;have a5:a<65536:=by omega
 clear u;have g:a=((c.toNat % 16)*64+d.toNat % 64)*64+b.toNat % 64:=by
  have a0:=m.o;have a1:=n.o;have b1:=p.o;have a2:=o.o;have b2:=q.o;omega
 rw [←g] at hr;have L:=Lh g;clear g;first|have:((a:Int)<2048):=by omega|have:¬ (((a:Int)<2048)):=by omega
 first|have:((55296:Int)≤(a:Int)):=by omega|have:¬ (((55296:Int)≤(a:Int))):=by omega
 first|have:((a:Int)<57344):=by omega|have:¬ (((a:Int)<57344)):=by omega
 first|have:((a:Int)<65536):=by omega|have:¬ (((a:Int)<65536)):=by omega
 first|have:((1114111:Int)<(a:Int)):=by omega|have:¬ (((1114111:Int)<(a:Int))):=by omega
 refine eT 92 func58 [_] fun f=>?_;simp only [aF];refine vg ?_;intro K hK;refine wp_loop_rounds 3 ?_;rw [rounds_succ];revert K;refine vg ?_;intro K hK;rw [rounds_succ];revert K;refine vg ?_;intro K hK;rw [rounds_succ];revert K;refine vg ?_;intro K hK;refine jV ?_;refine ⟨?_,rfl⟩;rfl
theorem KV (l:Bs) (c d b:UInt8) (w:World) (S:3≤l.length) (i0:∀ h,(⟨l.toArray⟩:ByteArray)[0]'h=c) (i1:∀ h,(⟨l.toArray⟩:ByteArray)[1]'h=d) (i2:∀ h,(⟨l.toArray⟩:ByteArray)[2]'h=b) (Q:224≤c.toNat∧c.toNat<240) (C:d.toNat / 64=2) (D:b.toNat / 64=2) (hr:(55296≤(((c.toNat % 16)*64+d.toNat % 64)*64+b.toNat % 64)∧(((c.toNat % 16)*64+d.toNat % 64)*64+b.toNat % 64)<57344)) :
  Calls prog 58 #[(.string ⟨l.toArray⟩)] w fun e w'=>e=.returned (.tuple #[.int .i64 0,.int .i64 0])∧w=w':=by
 obtain ⟨q0,q1,q2,q3,q4,q5,q6,R,E⟩:=YA Q;obtain ⟨he,T,Z⟩:=DP S;have W:¬ ((l.length:Int)<3):=by omega
 have aA:1<l.length:=by omega
 have U:(1:Int)<(l.length:Int):=by omega
 have X:=fE d C;have aC:2<l.length:=by omega
 have V:(2:Int)<(l.length:Int):=by omega
 have Y:=fE b D;have a6:IntKind.i64.wrap 2=2:=rfl;have a7:IntKind.i64.wrap 3=3:=rfl;have a8:IntKind.i64.wrap 4=4:=rfl;have B:=(iQ c).2.1;obtain ⟨k,s⟩:∃ k:Nat,k=c.toNat % 16:=⟨_,rfl⟩;rw [←s] at B;have m:=Lh s;have a3:k<16:=by omega
 clear s;have F:=jP d;obtain ⟨I,v⟩:∃ y:Nat,y=d.toNat % 64:=⟨_,rfl⟩;rw [←v] at F;have p:=Lh v;have i:I<64:=by omega
 clear v;obtain ⟨M,N,z⟩:=jR k I (by omega) i;obtain ⟨H,t⟩:∃ r:Nat,r=k*64+I:=⟨_,rfl⟩;rw [←t] at z;have n:=Lh t;have a4:H<1024:=by omega
 clear t;have G:=jP b;obtain ⟨J,x⟩:∃ y:Nat,y=b.toNat % 64:=⟨_,rfl⟩;rw [←x] at G;have q:=Lh x;have j:J<64:=by omega
 clear x;obtain ⟨O,P,A⟩:=jR H J (by omega) j;obtain ⟨a,u⟩:∃ r:Nat,r=H*64+J:=⟨_,rfl⟩;rw [←u] at A;have o:=Lh u;have a5:a<65536:=by omega
 clear u;have g:a=((c.toNat % 16)*64+d.toNat % 64)*64+b.toNat % 64:=by
  have a0:=m.o;have a1:=n.o;have b1:=p.o;have a2:=o.o;have b2:=q.o;omega
 rw [←g] at hr;have L:=Lh g;clear g;first|have:((a:Int)<2048):=by omega|have:¬ (((a:Int)<2048)):=by omega
 first|have:((55296:Int)≤(a:Int)):=by omega|have:¬ (((55296:Int)≤(a:Int))):=by omega
 first|have:((a:Int)<57344):=by omega|have:¬ (((a:Int)<57344)):=by omega
 first|have:((a:Int)<65536):=by omega|have:¬ (((a:Int)<65536)):=by omega
 first|have:((1114111:Int)<(a:Int)):=by omega|have:¬ (((1114111:Int)<(a:Int))):=by omega
 refine eT 92 func58 [_] fun f=>?_;simp only [aF];refine vg ?_;intro K hK;refine wp_loop_rounds 3 ?_;rw [rounds_succ];revert K;refine vg ?_;intro K hK;rw [rounds_succ];revert K;refine vg ?_;intro K hK;rw [rounds_succ];revert K;refine vg ?_;intro K hK;refine jV ?_;refine ⟨?_,rfl⟩;rfl
theorem R4 (l:Bs) (c d b:UInt8) (w:World) (T:3≤l.length) (i0:∀ h,(⟨l.toArray⟩:ByteArray)[0]'h=c) (i1:∀ h,(⟨l.toArray⟩:ByteArray)[1]'h=d) (i2:∀ h,(⟨l.toArray⟩:ByteArray)[2]'h=b) (R:224≤c.toNat∧c.toNat<240) (E:d.toNat / 64=2) (F:b.toNat / 64=2) (m:((2048≤(((c.toNat % 16)*64+d.toNat % 64)*64+b.toNat % 64)∧(((c.toNat % 16)*64+d.toNat % 64)*64+b.toNat % 64)<55296)∨57344≤(((c.toNat % 16)*64+d.toNat % 64)*64+b.toNat % 64))) :
  Calls prog 58 #[(.string ⟨l.toArray⟩)] w fun e w'=>e=.returned (.tuple #[.int .i64 ((((c.toNat % 16)*64+d.toNat % 64)*64+b.toNat % 64:Nat):Int),.int .i64 3])∧w=w':=by
 obtain ⟨q0,q1,q2,q3,q4,q5,q6,S,G⟩:=YA R;obtain ⟨he,U,aA⟩:=DP T;have X:¬ ((l.length:Int)<3):=by omega
 have aC:1<l.length:=by omega
 have V:(1:Int)<(l.length:Int):=by omega
 have Y:=fE d E;have a3:2<l.length:=by omega
 have W:(2:Int)<(l.length:Int):=by omega
 have Z:=fE b F;have a7:IntKind.i64.wrap 2=2:=rfl;have a8:IntKind.i64.wrap 3=3:=rfl;have a9:IntKind.i64.wrap 4=4:=rfl;have D:=(iQ c).2.1;obtain ⟨k,u⟩:∃ k:Nat,k=c.toNat % 16:=⟨_,rfl⟩;rw [←u] at D;have n:=Lh u;have a4:k<16:=by omega
 clear u;have H:=jP d;obtain ⟨L,z⟩:∃ y:Nat,y=d.toNat % 64:=⟨_,rfl⟩;rw [←z] at H;have q:=Lh z;have i:L<64:=by omega
 clear z;obtain ⟨N,O,B⟩:=jR k L (by omega) i;obtain ⟨J,v⟩:∃ r:Nat,r=k*64+L:=⟨_,rfl⟩;rw [←v] at B;have o:=Lh v;have a5:J<1024:=by omega
 clear v;have I:=jP b;obtain ⟨M,A⟩:∃ y:Nat,y=b.toNat % 64:=⟨_,rfl⟩;rw [←A] at I;have s:=Lh A;have j:M<64:=by omega
 clear A;obtain ⟨P,Q,C⟩:=jR J M (by omega) j;obtain ⟨a,x⟩:∃ r:Nat,r=J*64+M:=⟨_,rfl⟩;rw [←x] at C;have p:=Lh x;have a6:a<65536:=by omega
 clear x;have g:a=((c.toNat % 16)*64+d.toNat % 64)*64+b.toNat % 64:=by
  have a0:=n.o;have a1:=o.o;have b1:=q.o;have a2:=p.o;have b2:=s.o;omega
 rw [←g] at m;have t:=Lh g;clear g;rcases m with m|m
 all_goals
  first|have:((a:Int)<2048):=by omega|have:¬ (((a:Int)<2048)):=by omega
  first|have:((55296:Int)≤(a:Int)):=by omega|have:¬ (((55296:Int)≤(a:Int))):=by omega
  first|have:((a:Int)<57344):=by omega|have:¬ (((a:Int)<57344)):=by omega
  first|have:((a:Int)<65536):=by omega|have:¬ (((a:Int)<65536)):=by omega
  first|have:((1114111:Int)<(a:Int)):=by omega|have:¬ (((1114111:Int)<(a:Int))):=by omega
  refine eT 92 func58 [_] fun f=>?_;simp only [aF];refine vg ?_;intro K hK;refine wp_loop_rounds 3 ?_;rw [rounds_succ];revert K;refine vg ?_;intro K hK;rw [rounds_succ];revert K;refine vg ?_;intro K hK;rw [rounds_succ];revert K;refine vg ?_;refine jV ?_;refine ⟨?_,rfl⟩;rw [←t.o]
theorem GE (l:Bs) (c:UInt8) (w:World) (g:1≤l.length) (n:l.length<4) (o:∀ h,(⟨l.toArray⟩:ByteArray)[0]'h=c) (b:240≤c.toNat∧c.toNat<245) :
  Calls prog 58 #[(.string ⟨l.toArray⟩)] w fun e w'=>e=.returned (.tuple #[.int .i64 0,.int .i64 0])∧w=w':=by
 obtain ⟨p,q,r,s,t,u,v,d,a⟩:=V9 b;obtain ⟨m,i,k⟩:=DP g;have j:(l.length:Int)<4:=by omega
 refine eT 92 func58 [_] fun f=>?_;simp only [aF];refine vg ?_;intro K hK;refine jV ?_;exact ⟨rfl,rfl⟩
theorem KW (l:Bs) (c d:UInt8) (w:World) (o:4≤l.length) (B:∀ h,(⟨l.toArray⟩:ByteArray)[0]'h=c) (C:∀ h,(⟨l.toArray⟩:ByteArray)[1]'h=d) (m:240≤c.toNat∧c.toNat<245) (g:d.toNat / 64≠2) :
  Calls prog 58 #[(.string ⟨l.toArray⟩)] w fun e w'=>e=.returned (.tuple #[.int .i64 0,.int .i64 0])∧w=w':=by
 obtain ⟨D,E,F,G,H,I,J,n,i⟩:=V9 m;obtain ⟨A,p,t⟩:=DP o;have r:¬ ((l.length:Int)<4):=by omega
 have u:1<l.length:=by omega
 have q:(1:Int)<(l.length:Int):=by omega
 have s:=rA d g;have x:IntKind.i64.wrap 2=2:=rfl;have y:IntKind.i64.wrap 3=3:=rfl;have z:IntKind.i64.wrap 4=4:=rfl;have b:=(iQ c).2.2;obtain ⟨j,a⟩:∃ j:Nat,j=c.toNat % 8:=⟨_,rfl⟩;rw [←a] at b;have k:=Lh a;have v:j<8:=by omega
 clear a;refine eT 92 func58 [_] fun f=>?_;simp only [aF];refine vg ?_;intro K hK;refine wp_loop_rounds 1 ?_;rw [rounds_succ];revert K;refine vg ?_;intro K hK K hK K hK;refine jV ?_;exact ⟨rfl,rfl⟩
theorem KX (l:Bs) (c d b:UInt8) (w:World) (D:4≤l.length) (V:∀ h,(⟨l.toArray⟩:ByteArray)[0]'h=c) (W:∀ h,(⟨l.toArray⟩:ByteArray)[1]'h=d) (X:∀ h,(⟨l.toArray⟩:ByteArray)[2]'h=b) (B:240≤c.toNat∧c.toNat<245) (o:d.toNat / 64=2) (p:b.toNat / 64≠2) :
  Calls prog 58 #[(.string ⟨l.toArray⟩)] w fun e w'=>e=.returned (.tuple #[.int .i64 0,.int .i64 0])∧w=w':=by
 obtain ⟨Y,Z,q2,q3,q4,q5,q6,C,q⟩:=V9 B;obtain ⟨U,E,L⟩:=DP D;have H:¬ ((l.length:Int)<4):=by omega
 have M:1<l.length:=by omega
 have F:(1:Int)<(l.length:Int):=by omega
 have I:=fE d o;have N:2<l.length:=by omega
 have G:(2:Int)<(l.length:Int):=by omega
 have J:=rA b p;have Q:IntKind.i64.wrap 2=2:=rfl;have R:IntKind.i64.wrap 3=3:=rfl;have S:IntKind.i64.wrap 4=4:=rfl;have n:=(iQ c).2.2;obtain ⟨g,i⟩:∃ g:Nat,g=c.toNat % 8:=⟨_,rfl⟩;rw [←i] at n;have u:=Lh i;have O:g<8:=by omega
 clear i;have s:=jP d;obtain ⟨t,k⟩:∃ y:Nat,y=d.toNat % 64:=⟨_,rfl⟩;rw [←k] at s;have x:=Lh k;have a:t<64:=by omega
 clear k;obtain ⟨z,A,m⟩:=jR g t (by omega) a;obtain ⟨T,j⟩:∃ r:Nat,r=g*64+t:=⟨_,rfl⟩;rw [←j] at m;have v:=Lh j;have P:T<512:=by omega
 clear j;refine eT 92 func58 [_] fun f=>?_;simp only [aF];refine vg ?_;intro K hK;refine wp_loop_rounds 2 ?_;rw [rounds_succ];revert K;refine vg ?_;intro K hK;rw [rounds_succ];revert K;refine vg ?_;intro K hK K hK K hK;refine jV ?_;exact ⟨rfl,rfl⟩
theorem KY (l:Bs) (c d b g:UInt8) (w:World) (R:4≤l.length) (i0:∀ h,(⟨l.toArray⟩:ByteArray)[0]'h=c) (i1:∀ h,(⟨l.toArray⟩:ByteArray)[1]'h=d) (i2:∀ h,(⟨l.toArray⟩:ByteArray)[2]'h=b) (i3:∀ h,(⟨l.toArray⟩:ByteArray)[3]'h=g) (P:240≤c.toNat∧c.toNat<245) (u:d.toNat / 64=2) (v:b.toNat / 64=2) (x:g.toNat / 64≠2) :
  Calls prog 58 #[(.string ⟨l.toArray⟩)] w fun e w'=>e=.returned (.tuple #[.int .i64 0,.int .i64 0])∧w=w':=by
 obtain ⟨q0,q1,q2,q3,q4,q5,q6,Q,z⟩:=V9 P;obtain ⟨he,S,aA⟩:=DP R;have W:¬ ((l.length:Int)<4):=by omega
 have aC:1<l.length:=by omega
 have T:(1:Int)<(l.length:Int):=by omega
 have X:=fE d u;have a0:2<l.length:=by omega
 have U:(2:Int)<(l.length:Int):=by omega
 have Y:=fE b v;have a1:3<l.length:=by omega
 have V:(3:Int)<(l.length:Int):=by omega
 have Z:=rA g x;have a5:IntKind.i64.wrap 2=2:=rfl;have a6:IntKind.i64.wrap 3=3:=rfl;have a7:IntKind.i64.wrap 4=4:=rfl;have t:=(iQ c).2.2;obtain ⟨j,k⟩:∃ j:Nat,j=c.toNat % 8:=⟨_,rfl⟩;rw [←k] at t;have F:=Lh k;have a2:j<8:=by omega
 clear k;have A:=jP d;obtain ⟨D,o⟩:∃ y:Nat,y=d.toNat % 64:=⟨_,rfl⟩;rw [←o] at A;have I:=Lh o;have a:D<64:=by omega
 clear o;obtain ⟨L,M,q⟩:=jR j D (by omega) a;obtain ⟨C,m⟩:∃ r:Nat,r=j*64+D:=⟨_,rfl⟩;rw [←m] at q;have G:=Lh m;have a3:C<512:=by omega
 clear m;have B:=jP b;obtain ⟨E,p⟩:∃ y:Nat,y=b.toNat % 64:=⟨_,rfl⟩;rw [←p] at B;have J:=Lh p;have i:E<64:=by omega
 clear p;obtain ⟨N,O,s⟩:=jR C E (by omega) i;obtain ⟨r2,n⟩:∃ r:Nat,r=C*64+E:=⟨_,rfl⟩;rw [←n] at s;have H:=Lh n;have a4:r2<32768:=by omega
 clear n;refine eT 92 func58 [_] fun f=>?_;simp only [aF];refine vg ?_;intro K hK;refine wp_loop_rounds 3 ?_;rw [rounds_succ];revert K;refine vg ?_;intro K hK;rw [rounds_succ];revert K;refine vg ?_;intro K hK;rw [rounds_succ];revert K;refine vg ?_;intro K hK K hK K hK;refine jV ?_;exact ⟨rfl,rfl⟩
theorem KZ (l:Bs) (c d b g:UInt8) (w:World) (hl:4≤l.length) (i0:∀ h,(⟨l.toArray⟩:ByteArray)[0]'h=c) (i1:∀ h,(⟨l.toArray⟩:ByteArray)[1]'h=d) (i2:∀ h,(⟨l.toArray⟩:ByteArray)[2]'h=b) (i3:∀ h,(⟨l.toArray⟩:ByteArray)[3]'h=g) (hc:240≤c.toNat∧c.toNat<245) (J:d.toNat / 64=2) (L:b.toNat / 64=2) (M:g.toNat / 64=2) (hr:((((c.toNat % 8)*64+d.toNat % 64)*64+b.toNat % 64)*64+g.toNat % 64)<65536) :
  Calls prog 58 #[(.string ⟨l.toArray⟩)] w fun e w'=>e=.returned (.tuple #[.int .i64 0,.int .i64 0])∧w=w':=by
 obtain ⟨q0,q1,q2,q3,q4,q5,q6,a5,N⟩:=V9 hc;obtain ⟨he,a6,b5⟩:=DP hl;have bA:¬ ((l.length:Int)<4):=by omega
 have b6:1<l.length:=by omega
 have a7:(1:Int)<(l.length:Int):=by omega
 have bC:=fE d J;have b7:2<l.length:=by omega
 have a8:(2:Int)<(l.length:Int):=by omega
 have b0:=fE b L;have b8:3<l.length:=by omega
 have a9:(3:Int)<(l.length:Int):=by omega
 have b4:=fE g M;have c3:IntKind.i64.wrap 2=2:=rfl;have c4:IntKind.i64.wrap 3=3:=rfl;have c5:IntKind.i64.wrap 4=4:=rfl;have I:=(iQ c).2.2;obtain ⟨n,x⟩:∃ n:Nat,n=c.toNat % 8:=⟨_,rfl⟩;rw [←x] at I;have o:=Lh x;have b9:n<8:=by omega
 clear x;have O:=jP d;obtain ⟨T,C⟩:∃ y:Nat,y=d.toNat % 64:=⟨_,rfl⟩;rw [←C] at O;have t:=Lh C;have j:T<64:=by omega
 clear C;obtain ⟨X,Y,F⟩:=jR n T (by omega) j;obtain ⟨R,z⟩:∃ r:Nat,r=n*64+T:=⟨_,rfl⟩;rw [←z] at F;have p:=Lh z;have cT:R<512:=by omega
 clear z;have P:=jP b;obtain ⟨U,D⟩:∃ y:Nat,y=b.toNat % 64:=⟨_,rfl⟩;rw [←D] at P;have u:=Lh D;have k:U<64:=by omega
 clear D;obtain ⟨Z,aA,G⟩:=jR R U (by omega) k;obtain ⟨S,A⟩:∃ r:Nat,r=R*64+U:=⟨_,rfl⟩;rw [←A] at G;have q:=Lh A;have c1:S<32768:=by omega
 clear A;have Q:=jP g;obtain ⟨V,E⟩:∃ y:Nat,y=g.toNat % 64:=⟨_,rfl⟩;rw [←E] at Q;have v:=Lh E;have m:V<64:=by omega
 clear E;obtain ⟨aC,a4,H⟩:=jR S V (by omega) m;obtain ⟨i,B⟩:∃ r:Nat,r=S*64+V:=⟨_,rfl⟩;rw [←B] at H;have s:=Lh B;have c2:i<2097152:=by omega
 clear B;have a:i=(((c.toNat % 8)*64+d.toNat % 64)*64+b.toNat % 64)*64+g.toNat % 64:=by
  have a0:=o.o;have a1:=p.o;have b1:=t.o;have a2:=q.o;have b2:=u.o;have a3:=s.o;have b3:=v.o;omega
 rw [←a] at hr;have W:=Lh a;clear a;first|have:((i:Int)<65536):=by omega|have:¬ (((i:Int)<65536)):=by omega
 first|have:((1114111:Int)<(i:Int)):=by omega|have:¬ (((1114111:Int)<(i:Int))):=by omega
 refine eT 92 func58 [_] fun f=>?_;simp only [aF];refine vg ?_;intro K hK;refine wp_loop_rounds 4 ?_;rw [rounds_succ];revert K;refine vg ?_;intro K hK;rw [rounds_succ];revert K;refine vg ?_;intro K hK;rw [rounds_succ];revert K;refine vg ?_;intro K hK;rw [rounds_succ];revert K;refine vg ?_;intro K hK;refine jV ?_;refine ⟨?_,rfl⟩;rfl
theorem GF (l:Bs) (c d b g:UInt8) (w:World) (hl:4≤l.length) (i0:∀ h,(⟨l.toArray⟩:ByteArray)[0]'h=c) (i1:∀ h,(⟨l.toArray⟩:ByteArray)[1]'h=d) (i2:∀ h,(⟨l.toArray⟩:ByteArray)[2]'h=b) (i3:∀ h,(⟨l.toArray⟩:ByteArray)[3]'h=g) (hc:240≤c.toNat∧c.toNat<245) (J:d.toNat / 64=2) (L:b.toNat / 64=2) (M:g.toNat / 64=2) (hr:1114111<((((c.toNat % 8)*64+d.toNat % 64)*64+b.toNat % 64)*64+g.toNat % 64)) :
  Calls prog 58 #[(.string ⟨l.toArray⟩)] w fun e w'=>e=.returned (.tuple #[.int .i64 0,.int .i64 0])∧w=w':=by
 obtain ⟨q0,q1,q2,q3,q4,q5,q6,a5,N⟩:=V9 hc;obtain ⟨he,a6,b5⟩:=DP hl;have bA:¬ ((l.length:Int)<4):=by omega
 have b6:1<l.length:=by omega
 have a7:(1:Int)<(l.length:Int):=by omega
 have bC:=fE d J;have b7:2<l.length:=by omega
 have a8:(2:Int)<(l.length:Int):=by omega
 have b0:=fE b L;have b8:3<l.length:=by omega
 have a9:(3:Int)<(l.length:Int):=by omega
 have b4:=fE g M;have c3:IntKind.i64.wrap 2=2:=rfl;have c4:IntKind.i64.wrap 3=3:=rfl;have c5:IntKind.i64.wrap 4=4:=rfl;have I:=(iQ c).2.2;obtain ⟨n,x⟩:∃ n:Nat,n=c.toNat % 8:=⟨_,rfl⟩;rw [←x] at I;have o:=Lh x;have b9:n<8:=by omega
 clear x;have O:=jP d;obtain ⟨T,C⟩:∃ y:Nat,y=d.toNat % 64:=⟨_,rfl⟩;rw [←C] at O;have t:=Lh C;have j:T<64:=by omega
 clear C;obtain ⟨X,Y,F⟩:=jR n T (by omega) j;obtain ⟨R,z⟩:∃ r:Nat,r=n*64+T:=⟨_,rfl⟩;rw [←z] at F;have p:=Lh z;have cT:R<512:=by omega
 clear z;have P:=jP b;obtain ⟨U,D⟩:∃ y:Nat,y=b.toNat % 64:=⟨_,rfl⟩;rw [←D] at P;have u:=Lh D;have k:U<64:=by omega
 clear D;obtain ⟨Z,aA,G⟩:=jR R U (by omega) k;obtain ⟨S,A⟩:∃ r:Nat,r=R*64+U:=⟨_,rfl⟩;rw [←A] at G;have q:=Lh A;have c1:S<32768:=by omega
 clear A;have Q:=jP g;obtain ⟨V,E⟩:∃ y:Nat,y=g.toNat % 64:=⟨_,rfl⟩;rw [←E] at Q;have v:=Lh E;have m:V<64:=by omega
 clear E;obtain ⟨aC,a4,H⟩:=jR S V (by omega) m;obtain ⟨i,B⟩:∃ r:Nat,r=S*64+V:=⟨_,rfl⟩;rw [←B] at H;have s:=Lh B;have c2:i<2097152:=by omega
 clear B;have a:i=(((c.toNat % 8)*64+d.toNat % 64)*64+b.toNat % 64)*64+g.toNat % 64:=by
  have a0:=o.o;have a1:=p.o;have b1:=t.o;have a2:=q.o;have b2:=u.o;have a3:=s.o;have b3:=v.o;omega
 rw [←a] at hr;have W:=Lh a;clear a;first|have:((i:Int)<65536):=by omega|have:¬ (((i:Int)<65536)):=by omega
 first|have:((1114111:Int)<(i:Int)):=by omega|have:¬ (((1114111:Int)<(i:Int))):=by omega
 refine eT 92 func58 [_] fun f=>?_;simp only [aF];refine vg ?_;intro K hK;refine wp_loop_rounds 4 ?_;rw [rounds_succ];revert K;refine vg ?_;intro K hK;rw [rounds_succ];revert K;refine vg ?_;intro K hK;rw [rounds_succ];revert K;refine vg ?_;intro K hK;rw [rounds_succ];revert K;refine vg ?_;intro K hK;refine jV ?_;refine ⟨?_,rfl⟩;rfl
theorem R5 (l:Bs) (c d b g:UInt8) (w:World) (hl:4≤l.length) (i0:∀ h,(⟨l.toArray⟩:ByteArray)[0]'h=c) (i1:∀ h,(⟨l.toArray⟩:ByteArray)[1]'h=d) (i2:∀ h,(⟨l.toArray⟩:ByteArray)[2]'h=b) (i3:∀ h,(⟨l.toArray⟩:ByteArray)[3]'h=g) (hc:240≤c.toNat∧c.toNat<245) (L:d.toNat / 64=2) (M:b.toNat / 64=2) (N:g.toNat / 64=2) (hr:(65536≤((((c.toNat % 8)*64+d.toNat % 64)*64+b.toNat % 64)*64+g.toNat % 64)∧((((c.toNat % 8)*64+d.toNat % 64)*64+b.toNat % 64)*64+g.toNat % 64)≤1114111)) :
  Calls prog 58 #[(.string ⟨l.toArray⟩)] w fun e w'=>e=.returned (.tuple #[.int .i64 (((((c.toNat % 8)*64+d.toNat % 64)*64+b.toNat % 64)*64+g.toNat % 64:Nat):Int),.int .i64 4])∧w=w':=by
 obtain ⟨q0,q1,q2,q3,q4,q5,q6,a5,O⟩:=V9 hc;obtain ⟨he,a6,b5⟩:=DP hl;have bA:¬ ((l.length:Int)<4):=by omega
 have b6:1<l.length:=by omega
 have a7:(1:Int)<(l.length:Int):=by omega
 have bC:=fE d L;have b7:2<l.length:=by omega
 have a8:(2:Int)<(l.length:Int):=by omega
 have b0:=fE b M;have b8:3<l.length:=by omega
 have a9:(3:Int)<(l.length:Int):=by omega
 have b4:=fE g N;have c3:IntKind.i64.wrap 2=2:=rfl;have c4:IntKind.i64.wrap 3=3:=rfl;have c5:IntKind.i64.wrap 4=4:=rfl;have J:=(iQ c).2.2;obtain ⟨n,z⟩:∃ n:Nat,n=c.toNat % 8:=⟨_,rfl⟩;rw [←z] at J;have o:=Lh z;have b9:n<8:=by omega
 clear z;have P:=jP d;obtain ⟨U,D⟩:∃ y:Nat,y=d.toNat % 64:=⟨_,rfl⟩;rw [←D] at P;have t:=Lh D;have j:U<64:=by omega
 clear D;obtain ⟨X,Y,G⟩:=jR n U (by omega) j;obtain ⟨S,A⟩:∃ r:Nat,r=n*64+U:=⟨_,rfl⟩;rw [←A] at G;have p:=Lh A;have cT:S<512:=by omega
 clear A;have Q:=jP b;obtain ⟨V,E⟩:∃ y:Nat,y=b.toNat % 64:=⟨_,rfl⟩;rw [←E] at Q;have u:=Lh E;have k:V<64:=by omega
 clear E;obtain ⟨Z,aA,H⟩:=jR S V (by omega) k;obtain ⟨T,B⟩:∃ r:Nat,r=S*64+V:=⟨_,rfl⟩;rw [←B] at H;have q:=Lh B;have c1:T<32768:=by omega
 clear B;have R:=jP g;obtain ⟨W,F⟩:∃ y:Nat,y=g.toNat % 64:=⟨_,rfl⟩;rw [←F] at R;have v:=Lh F;have m:W<64:=by omega
 clear F;obtain ⟨aC,a4,I⟩:=jR T W (by omega) m;obtain ⟨i,C⟩:∃ r:Nat,r=T*64+W:=⟨_,rfl⟩;rw [←C] at I;have s:=Lh C;have c2:i<2097152:=by omega
 clear C;have a:i=(((c.toNat % 8)*64+d.toNat % 64)*64+b.toNat % 64)*64+g.toNat % 64:=by
  have a0:=o.o;have a1:=p.o;have b1:=t.o;have a2:=q.o;have b2:=u.o;have a3:=s.o;have b3:=v.o;omega
 rw [←a] at hr;have x:=Lh a;clear a;first|have:((i:Int)<65536):=by omega|have:¬ (((i:Int)<65536)):=by omega
 first|have:((1114111:Int)<(i:Int)):=by omega|have:¬ (((1114111:Int)<(i:Int))):=by omega
 refine eT 92 func58 [_] fun f=>?_;simp only [aF];refine vg ?_;intro K hK;refine wp_loop_rounds 4 ?_;rw [rounds_succ];revert K;refine vg ?_;intro K hK;rw [rounds_succ];revert K;refine vg ?_;intro K hK;rw [rounds_succ];revert K;refine vg ?_;intro K hK;rw [rounds_succ];revert K;refine vg ?_;refine jV ?_;refine ⟨?_,rfl⟩;rw [←x.o]
end Go.Proofs.YthapcchcahnfaaaGreatDoor
namespace Go.Proofs.YthapcchcahnfaaaGreatDoor
open Go Go.Proofs.Tryz
section
variable {P:Program} {ops:Array Oper} {md:Region.Mode} {L:List Nat} {D:World→Prop}
def DQ (P:Program) (ops:Array Oper) (L:List Nat) (D:World→Prop) (Q:Exit→Act→World→Prop) (i:Nat) (K:Act→World→Prop) (a:Act) (w:World):Prop:=
 match ops[i]? with
 | none=>False
 | some o=>match L.getD i 2 with
  | 0=>∃ v,Yields P ops o v a∧K (a.put o.dst v) w
  | 1=>D w∧∃ v,YieldsIf P ops D o v a∧K (a.put o.dst v) w
  | 2=>wpOp P ops Q i K a w
  | _=>wpOp P ops Q i (fun b w'=>D w'∧K b w') a w
theorem x6 {Q:Exit→Act→World→Prop} {i:Nat} {K e:Act→World→Prop} {a:Act} {w:World} (h:∀ a w,K a w→e a w) (b:DQ P ops L D Q i K a w):DQ P ops L D Q i e a w:=by
 unfold DQ at *;split
 ·simp_all
 ·rename_i o j;simp only [j] at b;split at b
  ·obtain ⟨v,c,d⟩:=b;exact ⟨v,c,h _ _ d⟩
  ·obtain ⟨g,v,c,d⟩:=b;exact ⟨g,v,c,h _ _ d⟩
  ·exact wpOp_mono h b
  ·exact wpOp_mono (fun k w' f=>⟨f.1,h _ _ f.2⟩) b
def pA (P:Program) (md:Region.Mode) (ops:Array Oper) (L:List Nat) (D:World→Prop) (Q:Exit→Act→World→Prop):Nat→Array Bool→Act→World→Prop
 | 0,listed,a,w=>Region.ready md ops listed=[]∧Q .normal a w
 | fuel+1,listed,a,w=>
  (Region.ready md ops listed=[]→Q .normal a w) ∧
  ∀ i∈Region.ready md ops listed,DQ P ops L D Q i (pA P md ops L D Q fuel (listed.setIfInBounds i true)) a w
theorem mU {Q:Exit→Act→World→Prop}:∀ (b:Nat) (c:Array Bool) (a:Act) (w:World),pA P md ops L D Q b c a w→wpAny P md ops Q b c a w
 | 0,_,_,_,h=>h
 | b+1,_,_,w,h=>⟨h.1,fun i l=>by
  have d:=h.2 i l;unfold DQ at d;split at d
  ·exact d.elim
  ·rename_i o g;split at d
   ·obtain ⟨v,f,hK⟩:=d;exact f.wpOp g (mU b _ _ w hK)
   ·obtain ⟨k,v,f,hK⟩:=d;exact f.wpOp g k (mU b _ _ w hK)
   ·exact wpOp_mono (fun j w' e=>mU b _ _ w' e) d
   ·exact wpOp_mono (fun j w' e=>mU b _ _ w' e.2) d⟩
structure vN (md:Region.Mode) (ops:Array Oper) (L:List Nat) (i:Nat) (wt:Nat→Bool) (a:Array Bool):Prop where
 out:∀ j,wt j=true→a.getD j false=false
 cov:∀ j,j≠i→a.getD j true=false→L.getD j 2=2→wt j=true
theorem vN.not_ready {i j:Nat} {f:Nat→Bool} {a:Array Bool} (q:mF md ops i f) (h:vN md ops L i f a) (n:a.getD i true=false) (p:j∈Region.ready md ops a):f j=false:=by
 cases r:f j with
 | false=>rfl
 | true=>
  obtain ⟨s,k,e,m,l,c⟩:=q j r;obtain ⟨_,o,g,b⟩:=mem_ready.1 p;have:o=s:=Option.some.inj (g.symm.trans k);subst this;have d:=b e m l;rcases c with c|c
  ·rw [c,nA n] at d;cases d
  ·rw [h.out _ c] at d;cases d
theorem vN.set {i j:Nat} {f:Nat→Bool} {a:Array Bool} (h:vN md ops L i f a) (g:f j=false):vN md ops L i f (a.setIfInBounds j true):=by
 refine ⟨fun k c=>?_,fun k c d l=>?_⟩
 ·have:j≠k:=fun e=>by subst e;rw [g] at c;cases c
  rw [getD_set_ne false this];exact h.out k c
 ·by_cases b:j=k
  ·subst b;rcases Nat.lt_or_ge j a.size with h'|h'
   ·simp [h'] at d
   ·simp at d
  ·rw [getD_set_ne true b] at d;exact h.cov k c d l
theorem s8 {Q:Exit→Act→World→Prop} {i:Nat} {n:Oper} {v:Value} (hi:ops[i]?=some n) (O:∀ (j:Nat) (o:Oper) cs b,ops[j]?=some o→o.op≠.select cs b)
  (hQ:∀ c a w,Q (.panic c) (a.put n.dst v) w→Q (.panic c) a w) (wt:Nat→Bool) (Z:L.getD i 2=1→mF md ops i wt) (m:L.getD i 2=0∨L.getD i 2=1) :
  ∀ (f:Nat) (d:Array Bool) (a:Act) (w:World),
   (∀ j q,ops[j]?=some q→j≠i→d.getD j true=false→(∀ e∈q.after,Region.binds md e=true→e.on≠i)→n.apart ops q=true) →
   (L.getD i 2=1→vN md ops L i wt d) →
   i∈Region.ready md ops d→(L.getD i 2=0→Yields P ops n v a)→(L.getD i 2=1→D w∧YieldsIf P ops D n v a) →
   pA P md ops L D Q f (d.setIfInBounds i true) (a.put n.dst v) w→pA P md ops L D Q (f+1) d a w:=by
 intro f
 have S:∀ (f:Nat) (d:Array Bool) (a:Act) (w:World),(L.getD i 2=0→Yields P ops n v a)→(L.getD i 2=1→D w∧YieldsIf P ops D n v a) →
   pA P md ops L D Q f (d.setIfInBounds i true) (a.put n.dst v) w→DQ P ops L D Q i (pA P md ops L D Q f (d.setIfInBounds i true)) a w:=by
  intro f d a w J t H;unfold DQ;simp only [hi];rcases m with m|m
  ·simp only [m];exact ⟨v,J m,H⟩
  ·simp only [m];exact ⟨(t m).1,v,(t m).2,H⟩
 induction f with
 | zero=>
  intro d a w _ _ T J t H;refine ⟨fun h=>(by rw [h] at T;cases T),fun j U=>?_⟩;by_cases l:j=i
  ·subst l;exact S _ _ _ _ J t H
  ·have:=ready_mono U l;rw [H.1] at this;cases this
 | succ f ih=>
  intro d a w y N T J t H;refine ⟨fun h=>(by rw [h] at T;cases T),fun j U=>?_⟩;by_cases l:j=i
  ·subst l;exact S _ _ _ _ J t H
  ·have z:=H.2 j (ready_mono U l);obtain ⟨B,q,s,V⟩:=mem_ready.1 U;have A:=(mem_ready.1 T).1;have X:∀ e∈q.after,Region.binds md e=true→e.on≠i:=fun e he hb aA=>by
    have t:=V e he hb;rw [aA,nA A] at t;cases t
   have M:=y j q s l B X
   have g:∀ k ok,ops[k]?=some ok→k≠i→(d.setIfInBounds j true).getD k true=false →
     (∀ e∈ok.after,Region.binds md e=true→e.on≠i)→n.apart ops ok=true:=fun k ok hk aC Y a0=>by
    refine y k ok hk aC ?_ a0;by_cases W:j=k
    ·subst W;exact B
    ·rw [getD_set_ne true W] at Y;exact Y
   have p:L.getD i 2=1→vN md ops L i wt (d.setIfInBounds j true):=fun h=>(N h).set ((N h).not_ready (Z h) A U);have C:=ready_mono T (Ne.symm l);obtain ⟨p1,p2,p3⟩:=Oper.apart_spec M;have E:=fun cs b=>O i n cs b hi;have F:=fun cs b=>O j q cs b s;have G:∀ (a:Act),(L.getD i 2=0→Yields P ops n v a)→∀ u,(L.getD i 2=0→Yields P ops n v (a.put q.dst u)):=fun a R u h=>
    (R h).of_same (execOp_put n E a q.dst u p3) (wanted_put n a q.dst u p3)
   have I:∀ (a:Act),(L.getD i 2=1→D w∧YieldsIf P ops D n v a)→∀ u,(L.getD i 2=1→D w∧YieldsIf P ops D n v (a.put q.dst u)):=fun a R u h=>
    ⟨(R h).1,(R h).2.of_same (execOp_put n E a q.dst u p3) (wanted_put n a q.dst u p3)⟩
   unfold DQ at z ⊢;simp only [s] at z ⊢;split
   ·rename_i r;simp only [r] at z;obtain ⟨u,R,hK⟩:=z;refine ⟨u,R.of_same (execOp_put q F a n.dst v p1).symm (wanted_put q a n.dst v p1).symm,ih _ _ _ g p C (G a J u) (I a t u) ?_⟩;rw [Array.setIfInBounds_comm _ _ l,←Act.put_comm a v u p2];exact hK
   ·rename_i r;simp only [r] at z;obtain ⟨hD,u,R,hK⟩:=z;refine ⟨hD,u,R.of_same (execOp_put q F a n.dst v p1).symm (wanted_put q a n.dst v p1).symm,ih _ _ _ g p C (G a J u) (I a t u) ?_⟩;rw [Array.setIfInBounds_comm _ _ l,←Act.put_comm a v u p2];exact hK
   ·rename_i r;simp only [r] at z;rcases m with m|m
    ·refine wpOp_mono (fun a' w' x=>?_) (wpOp_put s M E F hQ (J m) z);refine ih _ _ _ g p C (fun _=>x.1) (fun h=>by rw [m] at h;cases h) ?_;rw [Array.setIfInBounds_comm _ _ l];exact x.2
    ·have h2:=(N m).not_ready (Z m) A U;rw [(N m).cov j l B r] at h2;cases h2
   ·rename_i n0 n1 n2;split at z
    ·exact absurd (by assumption) n0
    ·exact absurd (by assumption) n1
    ·exact absurd (by assumption) n2
    ·rcases m with m|m
     ·refine wpOp_mono (fun a' w' x=>?_) (wpOp_put s M E F hQ (J m) z);refine ⟨x.2.1,ih _ _ _ g p C (fun _=>x.1) (fun h=>by rw [m] at h;cases h) ?_⟩;rw [Array.setIfInBounds_comm _ _ l];exact x.2.2
     ·refine wpOp_mono (fun a' w' x=>?_) (wpOp_putIf s M E F hQ (t m).2 z);refine ⟨x.2.1,ih _ _ _ g p C (fun h=>by rw [m] at h;cases h) (fun _=>⟨x.2.1,x.1⟩) ?_⟩;rw [Array.setIfInBounds_comm _ _ l];exact x.2.2
inductive PT where
 | nil
 | one (k:Nat) (t:PT)
 | two (i j:Nat) (a b:PT)
def B5 (md:Region.Mode) (ops:Array Oper) (L:List Nat) (a:Array Bool) (i:Nat):Bool:=
 let wt:=lE md ops i
 decide (wt.size=ops.size)&&(List.range ops.size).all fun j=>
  (j==i||a.getD j true||!(L.getD j 2==2)||wt.getD j false) &&
  (!wt.getD j false||(!a.getD j false&&match ops[j]? with
   | some oj=>oj.after.any fun e=>Region.binds md e&&(e.on==i||wt.getD e.on false)
   | none=>false))
theorem B6 {a:Array Bool} {i:Nat} (h:B5 md ops L a i=true):mF md ops i (fun j=>(lE md ops i).getD j false)∧(a.size=ops.size→vN md ops L i (fun j=>(lE md ops i).getD j false) a):=by
 simp only [B5,Bool.and_eq_true,decide_eq_true_eq,List.all_eq_true,List.mem_range] at h;obtain ⟨q,h⟩:=h;have f:∀ j,(lE md ops i).getD j false=true→j<ops.size:=fun j c=>by
  rcases Nat.lt_or_ge j (lE md ops i).size with h'|h'
  ·omega
  ·simp [Array.getElem?_eq_none h'] at c
 refine ⟨fun j c=>?_,fun r=>⟨fun j c=>?_,fun j l d o=>?_⟩⟩
 ·have b:=(h j (f j c)).2;simp only [c,Bool.not_true,Bool.false_or,Bool.and_eq_true] at b;have g:=b.2;split at g
  ·rename_i p m;obtain ⟨e,n,k⟩:=Array.any_eq_true'.1 g;simp only [Bool.and_eq_true,Bool.or_eq_true,beq_iff_eq] at k;exact ⟨p,m,e,n,k.1,k.2⟩
  ·cases g
 ·have b:=(h j (f j c)).2;simp only [c,Bool.not_true,Bool.false_or,Bool.and_eq_true,Bool.not_eq_true'] at b;exact b.1
 ·have c:j<ops.size:=by
   rcases Nat.lt_or_ge j a.size with h'|h'
   ·omega
   ·simp [Array.getElem?_eq_none h'] at d
  have b:=(h j c).1;rw [o] at b;simp only [Bool.or_eq_true,beq_iff_eq,l,d,BEq.rfl,Bool.not_true,Bool.false_eq_true,false_or,or_false] at b;exact b
def nI (md:Region.Mode) (ops:Array Oper) (L:List Nat):PT→Nat→Array Bool→Bool
 | .nil,n,listed=>n==0&&(Region.ready md ops listed).isEmpty
 | .one k t,n,listed=>decide (0<n)&&(Region.ready md ops listed).contains k&&(match L.getD k 2 with
   | 0=>Region.free md ops listed k
   | 1=>Region.free md ops listed k&&B5 md ops L listed k
   | _=>Region.ready md ops listed==[k])&&nI md ops L t (n-1) (listed.setIfInBounds k true)
 | .two i j ti tj,n,listed=>decide (0<n)&&Region.ready md ops listed==[i,j]&&nI md ops L ti (n-1) (listed.setIfInBounds i true)&&nI md ops L tj (n-1) (listed.setIfInBounds j true)
def kH (P:Program) (ops:Array Oper) (L:List Nat) (D:World→Prop) (Q:Exit→Act→World→Prop):PT→Act→World→Prop
 | .nil,a,w=>Q .normal a w
 | .one k t,a,w=>DQ P ops L D Q k (kH P ops L D Q t) a w
 | .two i j ti tj,a,w=>DQ P ops L D Q i (kH P ops L D Q ti) a w∧DQ P ops L D Q j (kH P ops L D Q tj) a w
theorem rB {Q:Exit→Act→World→Prop} (y:Region.noSelect ops=true) (s:∀ c a w,¬ Q (.panic c) a w):∀ (t:PT) (n:Nat) (b:Array Bool) (a:Act) (w:World),b.size=ops.size →
  nI md ops L t n b=true→kH P ops L D Q t a w→pA P md ops L D Q n b a w
 | .nil,n,b,a,w,_,g,h=>by
  simp only [nI,Bool.and_eq_true,beq_iff_eq,List.isEmpty_iff] at g;obtain ⟨rfl,g⟩:=g;exact ⟨g,h⟩
 | .one k t,n,b,a,w,z,g,h=>by
  simp only [nI,Bool.and_eq_true,decide_eq_true_eq] at g;obtain ⟨⟨⟨O,B⟩,l⟩,C⟩:=g;obtain ⟨n,rfl⟩:∃ m,n=m+1:=⟨n-1,by omega⟩;have u:k∈Region.ready md ops b:=by simpa using B
  have I:(b.setIfInBounds k true).size=ops.size:=by simpa using z
  have x:=fun r w'=>rB y s t n (b.setIfInBounds k true) r w' I C;have J:DQ P ops L D Q k (pA P md ops L D Q n (b.setIfInBounds k true)) a w:=x6 x h;have e:Region.ready md ops b=[k]→pA P md ops L D Q (n+1) b a w:=fun p=>
   ⟨fun d=>(by rw [p] at d;cases d),fun i M=>by
    rw [p] at M;have:i=k:=by simpa using M
    subst this;exact J⟩
  have q:=J;unfold DQ at q;split at q
  ·exact q.elim
  ·rename_i o A;split at q
   ·rename_i f;simp only [f] at l;obtain ⟨v,H,hK⟩:=q
    exact s8 A (Region.noSelect_spec y) (fun c a w d=>(s _ _ _ d).elim) (fun _=>false) (fun d=>by rw [f] at d;cases d) (.inl f) _ _ _ _ (Region.free_spec A l)
     (fun d=>by rw [f] at d;cases d) u (fun _=>H) (fun d=>by rw [f] at d;cases d) hK
   ·rename_i f;simp only [f,Bool.and_eq_true] at l;obtain ⟨N,v,H,hK⟩:=q;obtain ⟨w1,T⟩:=B6 l.2
    exact s8 A (Region.noSelect_spec y) (fun c a w d=>(s _ _ _ d).elim) _ (fun _=>w1) (.inr f) _ _ _ _ (Region.free_spec A l.1)
     (fun _=>T z) u (fun d=>by rw [f] at d;cases d) (fun _=>⟨N,H⟩) hK
   ·rename_i f;simp only [f] at l;exact e (by simpa using l)
   ·rename_i R S U;refine e ?_;split at l
    ·exact absurd (by assumption) R
    ·exact absurd (by assumption) S
    ·simpa using l
 | .two i j ti tj,n,b,a,w,z,g,h=>by
  simp only [nI,Bool.and_eq_true,decide_eq_true_eq,beq_iff_eq] at g;obtain ⟨⟨⟨O,B⟩,E⟩,F⟩:=g;obtain ⟨n,rfl⟩:∃ m,n=m+1:=⟨n-1,by omega⟩;refine ⟨fun d=>(by rw [B] at d;cases d),fun k G=>?_⟩;rw [B] at G;simp only [List.mem_cons,List.not_mem_nil,or_false] at G;rcases G with rfl|rfl
  ·exact x6 (fun r w'=>rB y s ti n _ r w' (by simpa using z) E) h.1
  ·exact x6 (fun r w'=>rB y s tj n _ r w' (by simpa using z) F) h.2
theorem s9 {j:Nat} {Q:Exit→Act→World→Prop} {a:Act} {w:World} {l:List Oper} (L:List Nat) (t:PT) (D:World→Prop) (f:P.follows .mixedOrders=true)
  (b:(Region.noSelect l.toArray&&nI .any l.toArray L t l.length (Array.replicate l.length false))=true)
  (h:kH P l.toArray L D (NoPanic Q) t a w.drew):(Code.region j l.toArray true).wp P Q a w:=by
 simp only [Bool.and_eq_true] at b;obtain ⟨i,g⟩:=b;refine wp_region_noPanic (wp_region_any f ?_);have:=rB (md:=.any) i (fun c a w e=>e) t l.length (Array.replicate l.length false) a w.drew (by simp) g h;have d:=mU (md:=.any) _ _ _ _ this;simpa using d
theorem lL {Q:Exit→Act→World→Prop} {a:Act} {w:World} (h:Q .normal a w):kH P ops L D (NoPanic Q) .nil a w:=NoPanic.normal h
theorem jS {Q:Exit→Act→World→Prop} {a:Act} {w:World} {k:Nat} {t:PT} {o:Oper} (i:ops[k]?=some o) (g:L.getD k 2=0)
  (h:∀ K:Act→Prop,(∀ a,kH P ops L D Q t a w→K a)→if Region.wanted o (yielded ops a.tmps) then FS P o a K else K (a.put o.dst undef)):kH P ops L D Q (.one k t) a w:=by
 have:=h (fun d=>kH P ops L D Q t d w) (fun _ h=>h);simp only [kH,DQ,i,g];split at this
 ·rename_i c;obtain ⟨v,e,f⟩:=this;refine ⟨v,.inl ⟨c,fun w=>?_⟩,f⟩;have b:=e w;unfold sD at b;generalize (execOp a.eval o).run P w=r at *;cases r with
  | ok n w'=>cases n<;>simp only [lH] at b;rw [b.1,b.2]
  | halt x w'=>simp only [lH] at b
 ·rename_i c;exact ⟨undef,.inr ⟨by simpa using c,rfl⟩,this⟩
def WA (P:Program) (D:World→Prop) (o:Oper) (a:Act) (next:Act→Prop):Prop:=∃ v,(∀ w,D w→sD P o a w v)∧next (a.put o.dst v)
theorem K1 {Q:Exit→Act→World→Prop} {a:Act} {w:World} {k:Nat} {t:PT} {o:Oper} (j:ops[k]?=some o) (i:L.getD k 2=1) (g:D w)
  (h:if Region.wanted o (yielded ops a.tmps) then WA P D o a (fun d=>kH P ops L D Q t d w) else kH P ops L D Q t (a.put o.dst undef) w):kH P ops L D Q (.one k t) a w:=by
 simp only [kH,DQ,j,i];refine ⟨g,?_⟩;split at h
 ·rename_i c;obtain ⟨v,e,f⟩:=h;refine ⟨v,.inl ⟨c,fun w c=>?_⟩,f⟩;have b:=e w c;unfold sD at b;generalize (execOp a.eval o).run P w=r at *;cases r with
  | ok n w'=>cases n<;>simp only [lH] at b;rw [b.1,b.2]
  | halt x w'=>simp only [lH] at b
 ·rename_i c;exact ⟨undef,.inr ⟨by simpa using c,rfl⟩,h⟩
theorem kI {Q:Exit→Act→World→Prop} {a:Act} {w:World} {k:Nat} {t:PT} {o:Oper} (c:ops[k]?=some o) (f:L.getD k 2=2)
  (h:∀ (K:Act→World→Prop),Shut (∀ b w',kH P ops L D Q t b w'→K b w')→if Region.wanted o (yielded ops a.tmps)=true then Oper.wp P o a w K Q else K (a.put o.dst undef) w) :
  kH P ops L D Q (.one k t) a w:=by
 simp only [kH,DQ,c,f];exact wpOp_mono (fun b w' e=>e) (wpOp_step c fun d hK=>h d hK)
theorem k8 {Q:Exit→Act→World→Prop} {a:Act} {w:World} {k:Nat} {t:PT} {o:Oper} (c:ops[k]?=some o) (i:L.getD k 2=3)
  (h:∀ (K:Act→World→Prop),Shut (∀ b w',D w'→kH P ops L D Q t b w'→K b w')→if Region.wanted o (yielded ops a.tmps)=true then Oper.wp P o a w K Q else K (a.put o.dst undef) w) :
  kH P ops L D Q (.one k t) a w:=by
 simp only [kH,DQ,c,i];exact wpOp_mono (fun b w' e=>e) (wpOp_step c fun d hK=>h d (fun b w' f g=>hK b w' ⟨f,g⟩))
theorem qB {o:Oper} (a:o.guard=none) (y:Nat→Option Bool):Region.wanted o y=true:=by
 unfold Region.wanted;rw [a]
theorem pB {Q:Exit→Act→World→Prop} {a:Act} {w:World} {k:Nat} {t:PT} {o:Oper} (g:ops[k]?=some o) (c:L.getD k 2=1) (b:D w) (f:o.guard=none) (d:Option Tmp) (e:o.dst=d) (v:Value) (i:∀ w',D w'→sD P o a w' v)
  (h:kH P ops L D Q t (a.put d v) w):kH P ops L D Q (.one k t) a w:=by
 subst e;refine K1 g c b ?_;rw [if_pos (qB f _)];exact ⟨v,i,h⟩
theorem OI {Q:Exit→Act→World→Prop} {a:Act} {w w':World} {k:Nat} {t:PT} {o:Oper} (n:ops[k]?=some o) (j:L.getD k 2=2) (m:o.guard=none) (d:Option Tmp) (l:o.dst=d) (s x:Operand) (e f:TypeId) (c:o.op=.call { callee:=.builtin .append,args:=#[s,x],argTypes:=#[e,f] }) (g i v':Value)
  (p:a.eval s=g) (q:a.eval x=i) (b:(Builtin.append_ #[e,f] o.type #[g,i]).run P w=.ok v' w') (h:kH P ops L D Q t (a.put d v') w'):kH P ops L D Q (.one k t) a w:=by
 subst l;refine kI n j (fun K hK=>?_);rw [if_pos (qB m _)];unfold Oper.wp;simp only [execOp,c,resolve,invoke,builtin];simp [p,q,b,Result.andThen];exact hK.out _ _ h
theorem mJ {Q:Exit→Act→World→Prop} {a:Act} {w w':World} {k:Nat} {t:PT} {o:Oper} (p:ops[k]?=some o) (l:L.getD k 2=3) (n:o.guard=none) (d:Option Tmp) (m:o.dst=d) (s x:Operand) (e f:TypeId) (c:o.op=.call { callee:=.builtin .append,args:=#[s,x],argTypes:=#[e,f] }) (g i v':Value)
  (q:a.eval s=g) (r:a.eval x=i) (b:(Builtin.append_ #[e,f] o.type #[g,i]).run P w=.ok v' w') (j:D w') (h:kH P ops L D Q t (a.put d v') w'):kH P ops L D Q (.one k t) a w:=by
 subst m;refine k8 p l (fun K hK=>?_);rw [if_pos (qB n _)];unfold Oper.wp;simp only [execOp,c,resolve,invoke,builtin];simp [q,r,b,Result.andThen];exact hK.out _ _ j h
theorem DR {Q:Exit→Act→World→Prop} {a:Act} {w:World} {i j:Nat} {b c:PT} (d:kH P ops L D Q (.one i b) a w) (e:kH P ops L D Q (.one j c) a w):kH P ops L D Q (.two i j b c) a w:=⟨d,e⟩
end
end Go.Proofs.YthapcchcahnfaaaGreatDoor
