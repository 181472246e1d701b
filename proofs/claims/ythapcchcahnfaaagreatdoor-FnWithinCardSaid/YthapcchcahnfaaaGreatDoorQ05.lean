/- Part of the proof that laws.FnWithin returns true for every argument. No conditions. -/
import Derived.Test.YthapcchcahnfaaaGreatDoorQ03
import Derived.Test.YthapcchcahnfaaaGreatDoorQ04
import Derived.Lib.ConvBytes
import Derived.Lib.AtoiErrMem
set_option linter.all false
set_option maxHeartbeats 8000000
set_option maxRecDepth 100000
namespace Go.Proofs.YthapcchcahnfaaaGreatDoor
open Go Go.RowKit Tryz
theorem mQ (a:Bool):∀ (c:Bs) (n:Nat),n≤c.foldl (fun n b=>n*(if a then 16 else 10)+dW b) n
 | [],n=>dC _
 | b::c,n=>by
  refine gA ?_ (mQ a c _);show n≤n*(if a then 16 else 10)+dW b;cases a<;>simp<;>omega
theorem vC {a:Bool} {b:UInt8} (h:eW a b=true):(48≤b.toNat∧b.toNat≤57∧dW b=b.toNat-48)∨(a=true∧97≤b.toNat∧b.toNat≤102∧dW b=b.toNat-87)∨(a=true∧65≤b.toNat∧b.toNat≤70∧dW b=b.toNat-55):=by
 have i:(48:UInt8).toNat=48:=rfl;have f:(57:UInt8).toNat=57:=rfl;have g:(97:UInt8).toNat=97:=rfl;have j:(102:UInt8).toNat=102:=rfl;have k:(65:UInt8).toNat=65:=rfl;have l:(70:UInt8).toNat=70:=rfl;simp only [eW,Bool.or_eq_true,FO,IN,UInt8.le_iff_toNat_le,i,f,g,j,k,l] at h;unfold dW;simp only [UInt8.le_iff_toNat_le,f,g];rcases h with (⟨c,d⟩|⟨⟨e,c⟩,d⟩)|⟨⟨e,c⟩,d⟩
 ·left;rw [aT d];exact ⟨c,d,rfl⟩
 ·right;left;rw [aM (by omega),aT c];exact ⟨e,c,d,rfl⟩
 ·right;right;rw [aM (by omega),aM (by omega)];exact ⟨e,c,d,rfl⟩
theorem M7 (n v:Nat) (h:(97≤n∧n≤102∧v=n)∨(65≤n∧n≤70∧v=n+32)) (w:World):Calls prog 127 #[.int .u8 n] w fun e w'=>e=.returned (.int .u8 v)∧w=w':=by
 rcases h with ⟨a,b,rfl⟩|⟨a,b,rfl⟩
 ·have c:v=97∨v=98∨v=99∨v=100∨v=101∨v=102:=by omega
  clear a b;rcases c with rfl|rfl|rfl|rfl|rfl|rfl
  all_goals
   go_enter func127,ntmps127
   go_wp2;go_ret
   exact ⟨rfl,rfl⟩
 ·have c:n=65∨n=66∨n=67∨n=68∨n=69∨n=70:=by omega
  clear a b;rcases c with rfl|rfl|rfl|rfl|rfl|rfl
  all_goals
   go_enter func127,ntmps127
   go_wp2;go_ret
   exact ⟨rfl,rfl⟩
abbrev M8 (s:Bs):Value:=.string ⟨s.toArray⟩
def o4 (a:Bool) (b:Bs) (u:TypeId) (c:Ending):Prop:=
 if b=[]∨18446744073709551616≤gC a b then ∃ n k,c=.returned (.tuple #[.int .u64 n,.iface u (.int .i64 k)])∧(k=1∨k=2) else c=.returned (.tuple #[.int .u64 (gC a b),.nilIface])
def M9 (c:Bool) (d:Bs) (e:Value) (w1:World) (k:Nat) (a:Act) (w:World):Prop:=
 ∃ (f:Nat→Value) (i acc:Nat) (n:Int),a=fr 172 f [(0,M8 d),(1,.int .i64 (if c then 16 else 10)),(8,.bool false),(10,.int .u64 (if c then 1152921504606846976 else 1844674407370955162)),(11,.int .u64 18446744073709551615),(12,.bool false),(13,.int .u64 n),(99,e),(100,.int .i64 d.length),(101,.int .i64 i)] ∧
  w=w1∧i≤d.length∧k=d.length-i∧n=(acc:Int)∧acc<18446744073709551616∧gC c d=(d.drop i).foldl (fun n b=>n*(if c then 16 else 10)+dW b) acc
noncomputable def FW:Code:=((Tryz.f114.body).bind (Code.partAt 36)).getD .skip
structure U3 (a:Bs) (b:Nat) (w1:World):Prop where
 at':∀ j,(c:j<a.length)→w1.cell? ⟨b,j,none⟩=some (.int .u8 a[j].toNat)
theorem IW (j:Bool) (g:Bs) (Z:∀ b∈g,eW j b=true) (hl:g.length≤1000000000) (b D:Nat) (w0 w1:World) (hm:U3 g b w1) (hB:Below w0.heap.size w0 w1) (K:Act→World→Prop) (J:Nat→Act→World→Prop) (k:Nat)
  (f:Nat→Value) (i acc:Nat) (n:Int) (hi:i≤g.length) (hk:k=g.length-i) (hn:n=(acc:Int)) (x:acc<18446744073709551616) (l:gC j g=(g.drop i).foldl (fun n b=>n*(if j then 16 else 10)+dW b) acc)
  (hJ:∀ k a w,M9 j g (.slice (some ⟨b,0,none⟩) g.length D) w1 k a w→J k a w) (hK:∀ a w,Handed J k a w→K a w) (K2:Act→World→Prop)
  (G:∀ f n,18446744073709551616 > gC j g→n=(gC j g:Int)→K2 (fr 172 f [(0,M8 g),(12,.bool false),(13,.int .u64 n)]) w1) :
  FW.wp prog (Exit.then K (Exit.inBlock 3 (Exit.then K2 (bodyPost prog Tryz.f114 fun en w'=>o4 j g 237 en∧Below w0.heap.size w0 w'))))
   (fr 172 f [(0,M8 g),(1,.int .i64 (if j then 16 else 10)),(8,.bool false),(10,.int .u64 (if j then 1152921504606846976 else 1844674407370955162)),(11,.int .u64 18446744073709551615),(12,.bool false),(13,.int .u64 n),(99,.slice (some ⟨b,0,none⟩) g.length D),(100,.int .i64 g.length),(101,.int .i64 i)]) w1:=by
 have n0:0≤n:=by omega
 have n1:n<18446744073709551616:=by omega
 have a2:(g.length:Int)≤1000000000:=by omega
 have ⟨X,p,HA,V,e,W⟩:=iD hk hn x hB l hJ;have Y:=Lh G;clear hk hn x hB hJ G;by_cases u:i<g.length
 ·have hc:=hm.at' i u;have s:=Z g[i] (List.getElem_mem u);rw [show g.drop i=g[i]::g.drop (i+1) from CZ u,List.foldl_cons] at l;generalize g[i]=c at hc s l;obtain ⟨m,L⟩:=cR c.toNat;obtain ⟨d,M⟩:∃ d:Int,d=(dW c:Int):=⟨_,rfl⟩;have r:((48:Int)≤m∧(m:Int)≤57∧d=(m:Int)-48∧d≤9)∨(j=true∧∃ v:Nat,((97≤m∧m≤102∧v=m)∨(65≤m∧m≤70∧v=m+32))∧d=(v:Int)-97+10∧(97:Int)≤v∧(v:Int)≤102):=by
   rcases vC s with ⟨E,F,q⟩|⟨T,E,F,q⟩|⟨T,E,F,q⟩
   ·left;omega
   ·right;exact ⟨T,m,by omega,by omega,by omega,by omega⟩
   ·right;exact ⟨T,m+32,by omega,by omega,by omega,by omega⟩
  have aC:0≤d:=by omega
  have ⟨o,e⟩:=cH M l;rw [←L] at hc;clear L s M l Z hm;unfold FW;conv=>arg 2;whnf
  cases j
  ·simp only [rQ,↓reduceIte] at e ⊢;rcases r with ⟨E,F,q,h4⟩|⟨T,_⟩
   ·have C:=Lh q;have O:IntKind.u8.wrap ((m:Int)-48)=d:=by rw [IntKind.wrap_u8];omega
    have y:IntKind.u64.wrap d=d:=by rw [IntKind.wrap_u64];omega
    have Q:((m:Int)==95)=false:=by simp;omega
    have h5:d<10:=by omega
    have H:IntKind.u8.wrap 10=10:=by rw [IntKind.wrap_u8];rfl
    have I:IntKind.u64.wrap 10=10:=by rw [IntKind.wrap_u64];rfl
    have P:IntKind.i64.wrap ((i:Int)+1)=((i+1:Nat):Int):=by rw [IntKind.wrap_i64];omega
    clear q;by_cases hcut:(1844674407370955162:Int)≤n
    ·revert K;refine vg ?_;intro K hK K hK K hK;refine jV ?_;refine ⟨?_,V.o⟩;unfold o4;rw [aT (aX (by
      rw [e.o];have h:=mQ false (g.drop (i+1)) (acc*10+dW c);simp only [rQ,↓reduceIte] at h;have:=p.o;omega))]
     exact ⟨_,_,rfl,by decide⟩
    ·have S:IntKind.u64.wrap (n*10)=n*10:=by rw [IntKind.wrap_u64];omega
     by_cases R:n*10+d<18446744073709551616
     ·have z:IntKind.u64.wrap (n*10+d)=n*10+d:=by rw [IntKind.wrap_u64];omega
      have A:¬ (n*10+d<n*10):=by omega
      have U:¬ (18446744073709551615<n*10+d):=by omega
      revert K;refine vg ?_;refine Kk [0,1,8,10,11,12,13,99,100,101] fun f=>?_;refine ⟨g.length-(i+1),by have:=X.o;omega,W.o _ _ _ ⟨f,i+1,acc*10+dW c,_,rfl,rfl,by omega,rfl,by have:=p.o;have:=o.o;omega,by have:=p.o;have:=o.o;omega,e.o⟩⟩
     ·have z:IntKind.u64.wrap (n*10+d)=n*10+d-18446744073709551616:=by rw [IntKind.wrap_u64];omega
      have A:n*10+d-18446744073709551616<n*10:=by omega
      revert K;refine vg ?_;intro K hK K hK K hK;refine jV ?_;refine ⟨?_,V.o⟩;unfold o4;rw [aT (aX (by
       rw [e.o];have h:=mQ false (g.drop (i+1)) (acc*10+dW c);simp only [rQ,↓reduceIte] at h;have:=p.o;have:=o.o;omega))]
      exact ⟨_,_,rfl,by decide⟩
   ·cases T
  ·simp only [↓reduceIte] at e ⊢;rcases r with ⟨E,F,q,h4⟩|⟨_,v,hv,q,E,F⟩
   ·have C:=Lh q;have O:IntKind.u8.wrap ((m:Int)-48)=d:=by rw [IntKind.wrap_u8];omega
    have y:IntKind.u64.wrap d=d:=by rw [IntKind.wrap_u64];omega
    have Q:((m:Int)==95)=false:=by simp;omega
    have h5:d<16:=by omega
    have H:IntKind.u8.wrap 16=16:=by rw [IntKind.wrap_u8];rfl
    have I:IntKind.u64.wrap 16=16:=by rw [IntKind.wrap_u64];rfl
    have P:IntKind.i64.wrap ((i:Int)+1)=((i+1:Nat):Int):=by rw [IntKind.wrap_i64];omega
    clear q;by_cases hcut:(1152921504606846976:Int)≤n
    ·revert K;refine vg ?_;intro K hK K hK K hK;refine jV ?_;refine ⟨?_,V.o⟩;unfold o4;rw [aT (aX (by
      rw [e.o];have h:=mQ true (g.drop (i+1)) (acc*16+dW c);simp only [rQ,↓reduceIte] at h;have:=p.o;omega))]
     exact ⟨_,_,rfl,by decide⟩
    ·have S:IntKind.u64.wrap (n*16)=n*16:=by rw [IntKind.wrap_u64];omega
     by_cases R:n*16+d<18446744073709551616
     ·have z:IntKind.u64.wrap (n*16+d)=n*16+d:=by rw [IntKind.wrap_u64];omega
      have A:¬ (n*16+d<n*16):=by omega
      have U:¬ (18446744073709551615<n*16+d):=by omega
      revert K;refine vg ?_;refine Kk [0,1,8,10,11,12,13,99,100,101] fun f=>?_;refine ⟨g.length-(i+1),by have:=X.o;omega,W.o _ _ _ ⟨f,i+1,acc*16+dW c,_,rfl,rfl,by omega,rfl,by have:=p.o;have:=o.o;omega,by have:=p.o;have:=o.o;omega,e.o⟩⟩
     ·exfalso;omega
   ·have C:=Lh q;have t:=Lh (fun w=>M7 m v hv w);have a0:(57:Int)<m:=by omega
    have a1:(48:Int)≤m:=by omega
    have a3:IntKind.u8.wrap ((v:Int)-97)=(v:Int)-97:=by rw [IntKind.wrap_u8];omega
    have O:IntKind.u8.wrap ((v:Int)-97+10)=d:=by rw [IntKind.wrap_u8];omega
    have y:IntKind.u64.wrap d=d:=by rw [IntKind.wrap_u64];omega
    have Q:((m:Int)==95)=false:=by simp;omega
    have h5:d<16:=by omega
    have H:IntKind.u8.wrap 16=16:=by rw [IntKind.wrap_u8];rfl
    have I:IntKind.u64.wrap 16=16:=by rw [IntKind.wrap_u64];rfl
    have P:IntKind.i64.wrap ((i:Int)+1)=((i+1:Nat):Int):=by rw [IntKind.wrap_i64];omega
    clear q hv;revert K;refine vg ?_;intro K hK K hK K hK K hK K hK;refine (t.o _).mono ?_;rintro e1 w2 ⟨rfl,rfl⟩;(repeat revert K);refine vS ?_;intro K hK K hK K hK K hK K hK;refine (t.o _).mono ?_;rintro e1 w2 ⟨rfl,rfl⟩;(repeat revert K);refine vS ?_;intro K hK K hK K hK K hK;refine (t.o _).mono ?_;rintro e1 w2 ⟨rfl,rfl⟩;go_simp;by_cases hcut:(1152921504606846976:Int)≤n
    ·(repeat revert K);refine vg ?_;intro K hK K hK K hK;refine jV ?_;refine ⟨?_,V.o⟩;unfold o4;rw [aT (aX (by
      rw [e.o];have h:=mQ true (g.drop (i+1)) (acc*16+dW c);simp only [rQ,↓reduceIte] at h;have:=p.o;omega))]
     exact ⟨_,_,rfl,by decide⟩
    ·have S:IntKind.u64.wrap (n*16)=n*16:=by rw [IntKind.wrap_u64];omega
     by_cases R:n*16+d<18446744073709551616
     ·have z:IntKind.u64.wrap (n*16+d)=n*16+d:=by rw [IntKind.wrap_u64];omega
      have A:¬ (n*16+d<n*16):=by omega
      have U:¬ (18446744073709551615<n*16+d):=by omega
      (repeat revert K);refine vg ?_;refine Kk [0,1,8,10,11,12,13,99,100,101] fun f=>?_;refine ⟨g.length-(i+1),by have:=X.o;omega,W.o _ _ _ ⟨f,i+1,acc*16+dW c,_,rfl,rfl,by omega,rfl,by have:=p.o;have:=o.o;omega,by have:=p.o;have:=o.o;omega,e.o⟩⟩
     ·exfalso;omega
 ·have aA:i=g.length:=by omega
  subst aA;have N:gC j g=acc:=by
   have:=e.o;rw [t6 (dC _)] at this;exact this
  have B:=Lh N;clear N l u hi hm Z;unfold FW;conv=>arg 2;whnf
  revert K;refine vg ?_;intro K hK K hK;refine Kk [0,12,13] fun f=>?_;exact Y.o _ _ (by have:=B.o;have:=HA.o;omega) (by rw [B.o];exact p.o)
theorem BO (g:Bool) (a:Bs) (G:∀ b∈a,eW g b=true) (L:a.length≤1000000000) (w:World) :
  Calls prog 114 #[M8 a,.int .i64 (if g then 16 else 10),.int .i64 64] w fun M w'=>o4 g a 237 M∧Below w.heap.size w w':=by
 have C:=Lh G;have N:IntKind.u64.wrap (IntKind.u64.wrap 18446744073709551616-1)=18446744073709551615:=by
  rw [IntKind.wrap_u64,IntKind.wrap_u64];decide
 have x:=Lib.run_convert_string_bytes (P:=prog) w 9 81 5 ⟨a.toArray⟩ underlying9 underlying81 underlying5;have B:=Lh (fun (j:Nat) (t:j<a.length)=>(Lib.bytesWorld_cell w 5 ⟨a.toArray⟩ j t));have c:=Lh (Lib.bytesWorld_below w 5 ⟨a.toArray⟩);obtain ⟨w1,s⟩:=cR (Lib.bytesWorld w 5 ⟨a.toArray⟩);rw [←s] at x B c;clear s G;by_cases l:a=[]
 ·subst l;refine eT 172 func114 [_,_,_] fun f=>?_;simp only [aF];refine vg ?_;intro K hK;refine jV ?_;refine ⟨?_,Below.refl _ _⟩;unfold o4;rw [aT (aG rfl)];exact ⟨_,_,rfl,by decide⟩
 ·have q:True:=trivial;have y:a.isEmpty=false:=by simp [l]
  have v:=Lh l;clear l q;cases g
  all_goals
   (try simp only [rQ,↓reduceIte])
   refine eT 172 func114 [_,_,_] fun f=>?_;simp only [aF];refine vg ?_;intro K hK;have o:IntKind.u64.wrap (IntKind.u64.wrap (2 ^ min (IntKind.u64.wrap 64).toNat 64)-1)=18446744073709551615:=by
    rw [IntKind.wrap_u64,IntKind.wrap_u64,IntKind.wrap_u64];decide
   refine cM [0,1,8,10,11,12,13,99,100,101] fun f=>?_;rw [o];clear o;have E:=kW a.length;have m:U3 a w.heap.size w1:=⟨fun j t=>by
    have h:=B.o j t;rw [show (⟨a.toArray⟩:ByteArray).data.toList.getD j 0=a[j] by simp [List.getD,List.getElem?_eq_getElem t]] at h;exact h⟩
   first
    | refine wp_loop_ghost_k (M9 false a (.slice (some ⟨w.heap.size,0,none⟩) a.length (grownCap w a.length 0 5)) w1) a.length ⟨f,0,0,0,rfl,rfl,E,rfl,rfl,by decide,by first|rfl|simp [gC]⟩ ?_
    | refine wp_loop_ghost_k (M9 true a (.slice (some ⟨w.heap.size,0,none⟩) a.length (grownCap w a.length 0 5)) w1) a.length ⟨f,0,0,0,rfl,rfl,E,rfl,rfl,by decide,by first|rfl|simp [gC]⟩ ?_
   rintro k _ wr ⟨f,i,acc,n,rfl,rfl,H,I,z,d,e⟩ J D F p
   first
    | refine bB (IW false a C.o L _ _ w _ m c.o D J k f i acc n H I z d e F p K ?_) (by kernel_rfl)
    | refine bB (IW true a C.o L _ _ w _ m c.o D J k f i acc n H I z d e F p K ?_) (by kernel_rfl)
   intro f n r A;subst A;have u:=Lh r;clear r z e d;revert K;refine vg ?_;refine jV ?_;refine ⟨?_,c.o⟩;unfold o4;rw [aM (by
    intro h;rcases h with h|h
    ·exact v.o h
    ·have:=u.o;omega)]
end Go.Proofs.YthapcchcahnfaaaGreatDoor
