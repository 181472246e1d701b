/- Part of the proof that laws.FnSkip returns true for every argument. No conditions. -/
import Derived.Test.YthapcchcahnfaaaGreatDoorS34
set_option linter.all false
set_option maxHeartbeats 8000000
set_option maxRecDepth 100000
namespace Go.Proofs.YthapcchcahnfaaaGreatDoor
open Go Go.RowKit
theorem EI (a:Bool) (n:Int) (s:Bs) (i:Nat) (b:i<s.length):bP a n (s.drop i)=if eU a (s.getD i 0) then bP a (if 1114111<(if 0≤n then n*(if a then 16 else 10)+dP (s.getD i 0) else n) then -1 else (if 0≤n then n*(if a then 16 else 10)+dP (s.getD i 0) else n)) (s.drop (i+1)) else none:=by
 rw [bV s i b];conv=>lhs;unfold bP
def UY (a:Bool) (s:Bs) (w0:World) (k:Nat) (b:Act) (w:World):Prop:=
 ∃ f i n,b=fr 74 f [(0,aB s),(4,.int .i64 (if a then 16 else 10)),(5,.int .i64 n),(20,.int .i64 (s.length:Nat)),(21,.int .i64 (i:Nat))]∧w0=w∧k=s.length-i∧i≤s.length∧-1≤n∧n≤1114111∧bP a 0 s=bP a n (s.drop i)
def Az (r:Option Int) (e:Ending):Prop:=match r with
 | some n=>e=.returned (.tuple #[.int .i64 n,.bool true])∧-1≤n∧n≤1114111
 | none=>e=.returned (.tuple #[.int .i64 0,.bool false])
theorem AR (a:Bool) (b:UInt8):(48≤b.toNat∧b.toNat≤57∧eU a b=true∧dP b=b.toNat-48)∨(a=true∧97≤b.toNat∧b.toNat≤102∧eU a b=true∧dP b=b.toNat-87)∨(a=true∧65≤b.toNat∧b.toNat≤70∧eU a b=true∧dP b=b.toNat-55)∨(¬ (48≤b.toNat∧b.toNat≤57)∧¬ (a=true∧97≤b.toNat∧b.toNat≤102)∧¬ (a=true∧65≤b.toNat∧b.toNat≤70)∧eU a b=false):=by
 have h:(48≤b)↔48≤b.toNat:=UInt8.le_iff_toNat_le;have f:(b≤57)↔b.toNat≤57:=UInt8.le_iff_toNat_le;have g:(97≤b)↔97≤b.toNat:=UInt8.le_iff_toNat_le;have i:(b≤102)↔b.toNat≤102:=UInt8.le_iff_toNat_le;have j:(65≤b)↔65≤b.toNat:=UInt8.le_iff_toNat_le;have k:(b≤70)↔b.toNat≤70:=UInt8.le_iff_toNat_le;have l:eU a b=((decide (48≤b.toNat)&&decide (b.toNat≤57))||(a&&decide (97≤b.toNat)&&decide (b.toNat≤102))||(a&&decide (65≤b.toNat)&&decide (b.toNat≤70))):=by
  unfold eU;simp only [h,f,g,i,j,k]
 have m:dP b=if b.toNat≤57 then b.toNat-48 else if 97≤b.toNat then b.toNat-87 else b.toNat-55:=by
  unfold dP;simp only [f,g]
 rw [l,m];by_cases e:48≤b.toNat∧b.toNat≤57
 ·left;refine ⟨e.1,e.2,?_,aY e.2⟩;simp [e.1,e.2]
 ·by_cases c:a=true∧97≤b.toNat∧b.toNat≤102
  ·right;left;refine ⟨c.1,c.2.1,c.2.2,?_,?_⟩
   ·simp [c.1,c.2.1,c.2.2]
   ·rw [aQ (by omega),aY c.2.1]
  ·by_cases d:a=true∧65≤b.toNat∧b.toNat≤70
   ·right;right;left;refine ⟨d.1,d.2.1,d.2.2,?_,?_⟩
    ·simp [d.1,d.2.1,d.2.2]
    ·rw [aQ (by omega),aQ (by omega)]
   ·right;right;right;refine ⟨e,c,d,?_⟩;cases a<;>simp_all<;>omega
theorem PM (s:Bs) (hl:s.length≤1000000000) (w:World):Calls Tryz.prog 112 #[aB s] w fun e w'=>Az (hH s) e∧∃ k,w'=w.drewN k:=by
 refine eL 74 Tryz.func112 [_] fun f=>?_;simp only [aF];cases s with
 | nil=>
  refine vg ?_;intro K hK;refine kW ?_;exact ⟨rfl,0,rfl⟩
 | cons b t=>
  have W:=Lh (show t.length+1≤1000000000 from hl);clear hl;have S:∀ h,(⟨(b::t).toArray⟩:ByteArray)[0]'h=b:=fun h=>rfl;by_cases z:b=120
  ·subst z;obtain ⟨I,H⟩:∃ I:Bs,I=120::t:=⟨_,rfl⟩;have U:I.isEmpty=false:=by rw [H];rfl
   have N:=Lh H;have z1:(0:Int)≤(I.length:Int):=by omega
   have z2:(1:Int)≤(I.length:Int):=by rw [H];simp;omega
   have z3:(0:Int)<(I.length:Int):=by omega
   have z4:0<I.length:=by omega
   rw [←H] at S ⊢;clear H;refine vg ?_;intro K hK;(refine lD [0,0,0,0] [0,1,2,3] ?_;refine vP ?_;repeat with_reducible intro nq)
   rw [iM,show I.drop 1=t by rw [N.o];rfl];clear U z1 z2 z3 z4 S;cases t with
   | nil=>
    revert K;refine vg ?_;intro K hK;refine kW ?_;exact ⟨by rw [N.o];rfl,_,rfl⟩
   | cons c t2=>
    obtain ⟨s,C⟩:∃ s:Bs,s=c::t2:=⟨_,rfl⟩;have Z:s.isEmpty=false:=by rw [C];rfl
    have L:=Lh (show s.length≤1000000000 by rw [C];have:=W.o;simp at this ⊢;omega);have M:=Lh (show hH I=bP true 0 s by rw [N.o,C];rfl);rw [←C];clear C W;revert K;refine vg ?_;intro K hK;refine cG [0,4,5,20,21] fun f=>?_;refine wp_loop_ghost_k (UY true s (w.drewN nq)) s.length ⟨f,0,0,rfl,rfl,rfl,jU _,by omega,by omega,rfl⟩ ?_;rintro k _ _ ⟨f,i,n,rfl,rfl,V,hi,F,G,u⟩ J K2 T E;have ⟨A,q,B,r,v,g⟩:=gT T E V u F G;clear T E V u F G;simp only [if_true];by_cases d:i<s.length
    ·have t0:(0:Int)≤(i:Int):=by omega
     have t1:(i:Int)<(s.length:Int):=by omega
     have wi:IntKind.i64.wrap ((i:Int)+1)=((i+1:Nat):Int):=by rw [IntKind.wrap_i64];have h2:=L.o;omega
     have y:=EI true n s i d;obtain ⟨b,O⟩:=cK (s.getD i 0);have ix:∀ h,(⟨s.toArray⟩:ByteArray)[i]'h=b:=by rw [O];exact iL s i d
     rw [←O] at y;have l:=Lh (r.o.trans y);have X:=b.toNat_lt;have wb:IntKind.i64.wrap (b.toNat:Int)=(b.toNat:Int):=by rw [IntKind.wrap_i64];omega
     clear O y;rcases AR true b with ⟨g1,g2,g3,g4⟩|⟨g0,g1,g2,g3,g4⟩|⟨g0,g1,g2,g3,g4⟩|⟨g1,g2,g3,g4⟩
     ·have wc:IntKind.i64.wrap ((b.toNat:Int)-48)=((b.toNat-48:Nat):Int):=by rw [IntKind.wrap_i64];omega
      obtain ⟨c,m⟩:∃ c:Nat,c=b.toNat-48:=⟨_,rfl⟩;have P:c≤15:=by omega
      have p:=Lh (show eU true b=true∧dP b=c from ⟨g3,g4.trans m.symm⟩);rw [←m] at wc;first|have:(48:Int)≤(b.toNat:Int):=by omega|have:¬ ((48:Int)≤(b.toNat:Int)):=by omega
      first|have:(b.toNat:Int)≤57:=by omega|have:¬ ((b.toNat:Int)≤57):=by omega
      first|have:(97:Int)≤(b.toNat:Int):=by omega|have:¬ ((97:Int)≤(b.toNat:Int)):=by omega
      first|have:(b.toNat:Int)≤102:=by omega|have:¬ ((b.toNat:Int)≤102):=by omega
      first|have:(65:Int)≤(b.toNat:Int):=by omega|have:¬ ((65:Int)≤(b.toNat:Int)):=by omega
      first|have:(b.toNat:Int)≤70:=by omega|have:¬ ((b.toNat:Int)≤70):=by omega
      clear g3 g4 m;by_cases o:0≤n
      ·have wm:IntKind.i64.wrap (n*16)=n*16:=by rw [IntKind.wrap_i64];have:=g.o;omega
       have wa:IntKind.i64.wrap (n*16+(c:Int))=n*16+(c:Int):=by rw [IntKind.wrap_i64];have:=g.o;omega
       by_cases a:1114111<n*16+(c:Int)
       ·have j:=Lh (show bP true 0 s=bP true (-1) (s.drop (i+1)) by
         rw [l.o,p.o.1,p.o.2,aY rfl,aY o];rw [aY (by simpa using a)])
        revert K;refine vg ?_;intro K hK;refine Kk [0,4,5,20,21] fun f=>?_;exact q.o _ _ ⟨s.length-(i+1),by rw [B.o];omega,A.o _ _ _ ⟨f,i+1,-1,rfl,rfl,rfl,d,by omega,by omega,j.o⟩⟩
       ·have j:=Lh (show bP true 0 s=bP true (n*16+(c:Int)) (s.drop (i+1)) by
         rw [l.o,p.o.1,p.o.2,aY rfl,aY o];rw [aQ (by simpa using a)];simp)
        revert K;refine vg ?_;intro K hK;refine Kk [0,4,5,20,21] fun f=>?_;exact q.o _ _ ⟨s.length-(i+1),by rw [B.o];omega,A.o _ _ _ ⟨f,i+1,n*16+(c:Int),rfl,rfl,rfl,d,by omega,by omega,j.o⟩⟩
      ·have x:¬ 1114111<n:=by omega
       have j:=Lh (show bP true 0 s=bP true n (s.drop (i+1)) by
        rw [l.o,p.o.1,p.o.2,aY rfl,aQ o,aQ x])
       revert K;refine vg ?_;intro K hK;refine Kk [0,4,5,20,21] fun f=>?_;exact q.o _ _ ⟨s.length-(i+1),by rw [B.o];omega,A.o _ _ _ ⟨f,i+1,n,rfl,rfl,rfl,d,v.o,g.o,j.o⟩⟩
     ·have wc:IntKind.i64.wrap ((b.toNat:Int)-87)=((b.toNat-87:Nat):Int):=by rw [IntKind.wrap_i64];omega
      obtain ⟨c,m⟩:∃ c:Nat,c=b.toNat-87:=⟨_,rfl⟩;have P:c≤15:=by omega
      have p:=Lh (show eU true b=true∧dP b=c from ⟨g3,g4.trans m.symm⟩);rw [←m] at wc;first|have:(48:Int)≤(b.toNat:Int):=by omega|have:¬ ((48:Int)≤(b.toNat:Int)):=by omega
      first|have:(b.toNat:Int)≤57:=by omega|have:¬ ((b.toNat:Int)≤57):=by omega
      first|have:(97:Int)≤(b.toNat:Int):=by omega|have:¬ ((97:Int)≤(b.toNat:Int)):=by omega
      first|have:(b.toNat:Int)≤102:=by omega|have:¬ ((b.toNat:Int)≤102):=by omega
      first|have:(65:Int)≤(b.toNat:Int):=by omega|have:¬ ((65:Int)≤(b.toNat:Int)):=by omega
      first|have:(b.toNat:Int)≤70:=by omega|have:¬ ((b.toNat:Int)≤70):=by omega
      clear g3 g4 m;by_cases o:0≤n
      ·have wm:IntKind.i64.wrap (n*16)=n*16:=by rw [IntKind.wrap_i64];have:=g.o;omega
       have wa:IntKind.i64.wrap (n*16+(c:Int))=n*16+(c:Int):=by rw [IntKind.wrap_i64];have:=g.o;omega
       by_cases a:1114111<n*16+(c:Int)
       ·have j:=Lh (show bP true 0 s=bP true (-1) (s.drop (i+1)) by
         rw [l.o,p.o.1,p.o.2,aY rfl,aY o];rw [aY (by simpa using a)])
        revert K;refine vg ?_;intro K hK;refine Kk [0,4,5,20,21] fun f=>?_;exact q.o _ _ ⟨s.length-(i+1),by rw [B.o];omega,A.o _ _ _ ⟨f,i+1,-1,rfl,rfl,rfl,d,by omega,by omega,j.o⟩⟩
       ·have j:=Lh (show bP true 0 s=bP true (n*16+(c:Int)) (s.drop (i+1)) by
         rw [l.o,p.o.1,p.o.2,aY rfl,aY o];rw [aQ (by simpa using a)];simp)
        revert K;refine vg ?_;intro K hK;refine Kk [0,4,5,20,21] fun f=>?_;exact q.o _ _ ⟨s.length-(i+1),by rw [B.o];omega,A.o _ _ _ ⟨f,i+1,n*16+(c:Int),rfl,rfl,rfl,d,by omega,by omega,j.o⟩⟩
      ·have x:¬ 1114111<n:=by omega
       have j:=Lh (show bP true 0 s=bP true n (s.drop (i+1)) by
        rw [l.o,p.o.1,p.o.2,aY rfl,aQ o,aQ x])
       revert K;refine vg ?_;intro K hK;refine Kk [0,4,5,20,21] fun f=>?_;exact q.o _ _ ⟨s.length-(i+1),by rw [B.o];omega,A.o _ _ _ ⟨f,i+1,n,rfl,rfl,rfl,d,v.o,g.o,j.o⟩⟩
     ·have wc:IntKind.i64.wrap ((b.toNat:Int)-55)=((b.toNat-55:Nat):Int):=by rw [IntKind.wrap_i64];omega
      obtain ⟨c,m⟩:∃ c:Nat,c=b.toNat-55:=⟨_,rfl⟩;have P:c≤15:=by omega
      have p:=Lh (show eU true b=true∧dP b=c from ⟨g3,g4.trans m.symm⟩);rw [←m] at wc;first|have:(48:Int)≤(b.toNat:Int):=by omega|have:¬ ((48:Int)≤(b.toNat:Int)):=by omega
      first|have:(b.toNat:Int)≤57:=by omega|have:¬ ((b.toNat:Int)≤57):=by omega
      first|have:(97:Int)≤(b.toNat:Int):=by omega|have:¬ ((97:Int)≤(b.toNat:Int)):=by omega
      first|have:(b.toNat:Int)≤102:=by omega|have:¬ ((b.toNat:Int)≤102):=by omega
      first|have:(65:Int)≤(b.toNat:Int):=by omega|have:¬ ((65:Int)≤(b.toNat:Int)):=by omega
      first|have:(b.toNat:Int)≤70:=by omega|have:¬ ((b.toNat:Int)≤70):=by omega
      clear g3 g4 m;by_cases o:0≤n
      ·have wm:IntKind.i64.wrap (n*16)=n*16:=by rw [IntKind.wrap_i64];have:=g.o;omega
       have wa:IntKind.i64.wrap (n*16+(c:Int))=n*16+(c:Int):=by rw [IntKind.wrap_i64];have:=g.o;omega
       by_cases a:1114111<n*16+(c:Int)
       ·have j:=Lh (show bP true 0 s=bP true (-1) (s.drop (i+1)) by
         rw [l.o,p.o.1,p.o.2,aY rfl,aY o];rw [aY (by simpa using a)])
        revert K;refine vg ?_;intro K hK;refine Kk [0,4,5,20,21] fun f=>?_;exact q.o _ _ ⟨s.length-(i+1),by rw [B.o];omega,A.o _ _ _ ⟨f,i+1,-1,rfl,rfl,rfl,d,by omega,by omega,j.o⟩⟩
       ·have j:=Lh (show bP true 0 s=bP true (n*16+(c:Int)) (s.drop (i+1)) by
         rw [l.o,p.o.1,p.o.2,aY rfl,aY o];rw [aQ (by simpa using a)];simp)
        revert K;refine vg ?_;intro K hK;refine Kk [0,4,5,20,21] fun f=>?_;exact q.o _ _ ⟨s.length-(i+1),by rw [B.o];omega,A.o _ _ _ ⟨f,i+1,n*16+(c:Int),rfl,rfl,rfl,d,by omega,by omega,j.o⟩⟩
      ·have x:¬ 1114111<n:=by omega
       have j:=Lh (show bP true 0 s=bP true n (s.drop (i+1)) by
        rw [l.o,p.o.1,p.o.2,aY rfl,aQ o,aQ x])
       revert K;refine vg ?_;intro K hK;refine Kk [0,4,5,20,21] fun f=>?_;exact q.o _ _ ⟨s.length-(i+1),by rw [B.o];omega,A.o _ _ _ ⟨f,i+1,n,rfl,rfl,rfl,d,v.o,g.o,j.o⟩⟩
     ·have j:=Lh (show bP true 0 s=none by rw [l.o,g4];rfl);clear g4;have R:b.toNat<48∨(57<b.toNat∧b.toNat<65)∨(65≤b.toNat∧b.toNat≤70)∨(70<b.toNat∧b.toNat<97)∨(97≤b.toNat∧b.toNat≤102)∨102<b.toNat:=by omega
      simp only [true_and,false_and,not_false_eq_true,rW] at g2 g3;rcases R with D|D|D|D|D|D
      all_goals first|(exfalso;omega)|(
       first|have:(48:Int)≤(b.toNat:Int):=by omega|have:¬ ((48:Int)≤(b.toNat:Int)):=by omega
       first|have:(b.toNat:Int)≤57:=by omega|have:¬ ((b.toNat:Int)≤57):=by omega
       first|have:(97:Int)≤(b.toNat:Int):=by omega|have:¬ ((97:Int)≤(b.toNat:Int)):=by omega
       first|have:(b.toNat:Int)≤102:=by omega|have:¬ ((b.toNat:Int)≤102):=by omega
       first|have:(65:Int)≤(b.toNat:Int):=by omega|have:¬ ((65:Int)≤(b.toNat:Int)):=by omega
       first|have:(b.toNat:Int)≤70:=by omega|have:¬ ((b.toNat:Int)≤70):=by omega
       revert K;refine vg ?_;intro K hK K hK K hK;refine kW ?_;refine ⟨?_,_,rfl⟩;rw [M.o,j.o];rfl)
    ·have Q:i=s.length:=by omega
     subst Q;have t1:¬ ((s.length:Int)<(s.length:Int)):=by omega
     have j:=Lh (show bP true 0 s=some n by rw [r.o,List.drop_length];rfl);revert K;refine vg ?_;refine kW ?_;refine ⟨?_,_,rfl⟩;rw [M.o,j.o];exact ⟨rfl,v.o,g.o⟩
  ·have Y:((b.toNat:Int)==120)=false:=nK z;have z3:(0:Int)<(((b::t:Bs).length:Nat):Int):=by simp
   obtain ⟨s,C⟩:∃ s:Bs,s=b::t:=⟨_,rfl⟩;have Z:s.isEmpty=false:=by rw [C];rfl
   have L:=Lh (show s.length≤1000000000 by rw [C];exact W.o);have M:=Lh (show hH (b::t)=bP false 0 s by rw [C];unfold hH;simp only [aQ z]);rw [←C] at S z3 ⊢;have z4:0<s.length:=by omega
   rw [C] at M;rw [←C] at M;clear C z W;refine vg ?_;intro K hK;refine cG [0,4,5,20,21] fun f=>?_;refine wp_loop_ghost_k (UY false s w) s.length ⟨f,0,0,rfl,rfl,rfl,jU _,by omega,by omega,rfl⟩ ?_;rintro k _ _ ⟨f,i,n,rfl,rfl,V,hi,F,G,u⟩ J K2 T E;have ⟨A,q,B,r,v,g⟩:=gT T E V u F G;clear T E V u F G;simp only [rW,if_false];by_cases d:i<s.length
   ·have t0:(0:Int)≤(i:Int):=by omega
    have t1:(i:Int)<(s.length:Int):=by omega
    have wi:IntKind.i64.wrap ((i:Int)+1)=((i+1:Nat):Int):=by rw [IntKind.wrap_i64];have h2:=L.o;omega
    have y:=EI false n s i d;obtain ⟨b,O⟩:=cK (s.getD i 0);have ix:∀ h,(⟨s.toArray⟩:ByteArray)[i]'h=b:=by rw [O];exact iL s i d
    rw [←O] at y;have l:=Lh (r.o.trans y);have X:=b.toNat_lt;have wb:IntKind.i64.wrap (b.toNat:Int)=(b.toNat:Int):=by rw [IntKind.wrap_i64];omega
    clear O y;rcases AR false b with ⟨g1,g2,g3,g4⟩|⟨g0,g1,g2,g3,g4⟩|⟨g0,g1,g2,g3,g4⟩|⟨g1,g2,g3,g4⟩
    ·have wc:IntKind.i64.wrap ((b.toNat:Int)-48)=((b.toNat-48:Nat):Int):=by rw [IntKind.wrap_i64];omega
     obtain ⟨c,m⟩:∃ c:Nat,c=b.toNat-48:=⟨_,rfl⟩;have P:c≤15:=by omega
     have p:=Lh (show eU false b=true∧dP b=c from ⟨g3,g4.trans m.symm⟩);rw [←m] at wc;first|have:(48:Int)≤(b.toNat:Int):=by omega|have:¬ ((48:Int)≤(b.toNat:Int)):=by omega
     first|have:(b.toNat:Int)≤57:=by omega|have:¬ ((b.toNat:Int)≤57):=by omega
     first|have:(97:Int)≤(b.toNat:Int):=by omega|have:¬ ((97:Int)≤(b.toNat:Int)):=by omega
     first|have:(b.toNat:Int)≤102:=by omega|have:¬ ((b.toNat:Int)≤102):=by omega
     first|have:(65:Int)≤(b.toNat:Int):=by omega|have:¬ ((65:Int)≤(b.toNat:Int)):=by omega
     first|have:(b.toNat:Int)≤70:=by omega|have:¬ ((b.toNat:Int)≤70):=by omega
     clear g3 g4 m;by_cases o:0≤n
     ·have wm:IntKind.i64.wrap (n*10)=n*10:=by rw [IntKind.wrap_i64];have:=g.o;omega
      have wa:IntKind.i64.wrap (n*10+(c:Int))=n*10+(c:Int):=by rw [IntKind.wrap_i64];have:=g.o;omega
      by_cases a:1114111<n*10+(c:Int)
      ·have j:=Lh (show bP false 0 s=bP false (-1) (s.drop (i+1)) by
        rw [l.o,p.o.1,p.o.2,aY rfl,aY o];rw [aY (by simpa using a)])
       revert K;refine vg ?_;intro K hK;refine Kk [0,4,5,20,21] fun f=>?_;exact q.o _ _ ⟨s.length-(i+1),by rw [B.o];omega,A.o _ _ _ ⟨f,i+1,-1,rfl,rfl,rfl,d,by omega,by omega,j.o⟩⟩
      ·have j:=Lh (show bP false 0 s=bP false (n*10+(c:Int)) (s.drop (i+1)) by
        rw [l.o,p.o.1,p.o.2,aY rfl,aY o];rw [aQ (by simpa using a)];simp)
       revert K;refine vg ?_;intro K hK;refine Kk [0,4,5,20,21] fun f=>?_;exact q.o _ _ ⟨s.length-(i+1),by rw [B.o];omega,A.o _ _ _ ⟨f,i+1,n*10+(c:Int),rfl,rfl,rfl,d,by omega,by omega,j.o⟩⟩
     ·have x:¬ 1114111<n:=by omega
      have j:=Lh (show bP false 0 s=bP false n (s.drop (i+1)) by
       rw [l.o,p.o.1,p.o.2,aY rfl,aQ o,aQ x])
      revert K;refine vg ?_;intro K hK;refine Kk [0,4,5,20,21] fun f=>?_;exact q.o _ _ ⟨s.length-(i+1),by rw [B.o];omega,A.o _ _ _ ⟨f,i+1,n,rfl,rfl,rfl,d,v.o,g.o,j.o⟩⟩
    ·exact Bool.noConfusion g0
    ·exact Bool.noConfusion g0
    ·have j:=Lh (show bP false 0 s=none by rw [l.o,g4];rfl);clear g4;have R:b.toNat<48∨(57<b.toNat∧b.toNat<65)∨(65≤b.toNat∧b.toNat≤70)∨(70<b.toNat∧b.toNat<97)∨(97≤b.toNat∧b.toNat≤102)∨102<b.toNat:=by omega
     simp only [true_and,false_and,not_false_eq_true,rW] at g2 g3;rcases R with D|D|D|D|D|D
     all_goals first|(exfalso;omega)|(
      first|have:(48:Int)≤(b.toNat:Int):=by omega|have:¬ ((48:Int)≤(b.toNat:Int)):=by omega
      first|have:(b.toNat:Int)≤57:=by omega|have:¬ ((b.toNat:Int)≤57):=by omega
      first|have:(97:Int)≤(b.toNat:Int):=by omega|have:¬ ((97:Int)≤(b.toNat:Int)):=by omega
      first|have:(b.toNat:Int)≤102:=by omega|have:¬ ((b.toNat:Int)≤102):=by omega
      first|have:(65:Int)≤(b.toNat:Int):=by omega|have:¬ ((65:Int)≤(b.toNat:Int)):=by omega
      first|have:(b.toNat:Int)≤70:=by omega|have:¬ ((b.toNat:Int)≤70):=by omega
      revert K;refine vg ?_;intro K hK K hK K hK;refine kW ?_;refine ⟨?_,0,rfl⟩;rw [M.o,j.o];rfl)
   ·have Q:i=s.length:=by omega
    subst Q;have t1:¬ ((s.length:Int)<(s.length:Int)):=by omega
    have j:=Lh (show bP false 0 s=some n by rw [r.o,List.drop_length];rfl);revert K;refine vg ?_;refine kW ?_;refine ⟨?_,0,rfl⟩;rw [M.o,j.o];exact ⟨rfl,v.o,g.o⟩
end Go.Proofs.YthapcchcahnfaaaGreatDoor
