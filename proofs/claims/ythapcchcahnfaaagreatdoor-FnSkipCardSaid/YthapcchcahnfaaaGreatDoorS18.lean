/- Part of the proof that laws.FnSkip returns true for every argument. No conditions. -/
import Derived.Test.YthapcchcahnfaaaGreatDoorS03
import Derived.Test.YthapcchcahnfaaaGreatDoorS08
import Derived.Lib.ConvBytes
import Derived.Lib.AtoiErrMem
import Derived.OrdersHeld
set_option linter.all false
set_option maxHeartbeats 8000000
set_option maxRecDepth 100000
namespace Go.Proofs.YthapcchcahnfaaaGreatDoor
open Go Go.RowKit Go.Proofs.Tryz
theorem mT (a:Bool):∀ (c:Bs) (n:Nat),n≤c.foldl (fun n b=>n*(if a then 16 else 10)+dP b) n
 | [],n=>dF _
 | b::c,n=>by
  refine fQ ?_ (mT a c _);show n≤n*(if a then 16 else 10)+dP b;cases a<;>simp<;>omega
theorem u9 {a:Bool} {b:UInt8} (h:eU a b=true):(48≤b.toNat∧b.toNat≤57∧dP b=b.toNat-48)∨(a=true∧97≤b.toNat∧b.toNat≤102∧dP b=b.toNat-87)∨(a=true∧65≤b.toNat∧b.toNat≤70∧dP b=b.toNat-55):=by
 have i:(48:UInt8).toNat=48:=rfl;have f:(57:UInt8).toNat=57:=rfl;have g:(97:UInt8).toNat=97:=rfl;have j:(102:UInt8).toNat=102:=rfl;have k:(65:UInt8).toNat=65:=rfl;have l:(70:UInt8).toNat=70:=rfl;simp only [eU,Bool.or_eq_true,FI,IC,UInt8.le_iff_toNat_le,i,f,g,j,k,l] at h;unfold dP;simp only [UInt8.le_iff_toNat_le,f,g];rcases h with (⟨c,d⟩|⟨⟨e,c⟩,d⟩)|⟨⟨e,c⟩,d⟩
 ·left;rw [aY d];exact ⟨c,d,rfl⟩
 ·right;left;rw [aQ (by omega),aY c];exact ⟨e,c,d,rfl⟩
 ·right;right;rw [aQ (by omega),aQ (by omega)];exact ⟨e,c,d,rfl⟩
theorem NT (n v:Nat) (h:(97≤n∧n≤102∧v=n)∨(65≤n∧n≤70∧v=n+32)) (w:World):Calls prog 127 #[.int .u8 n] w fun e w'=>e=.returned (.int .u8 v)∧w=w':=by
 rcases h with ⟨a,b,rfl⟩|⟨a,b,rfl⟩
 ·have c:v=97∨v=98∨v=99∨v=100∨v=101∨v=102:=by omega
  clear a b;rcases c with rfl|rfl|rfl|rfl|rfl|rfl
  all_goals
   go_enter func127,ntmps127
   go_wp2;go_ret
   exact ⟨rfl,rfl⟩
 ·have c:n=65∨n=66∨n=67∨n=68∨n=69∨n=70:=by omega
  clear a b;rcases c with rfl|rfl|rfl|rfl|rfl|rfl
  all_goals
   go_enter func127,ntmps127
   go_wp2;go_ret
   exact ⟨rfl,rfl⟩
abbrev NU (s:Bs):Value:=.string ⟨s.toArray⟩
def oZ (a:Bool) (b:Bs) (u:TypeId) (c:Ending):Prop:=
 if b=[]∨18446744073709551616≤fY a b then ∃ n k,c=.returned (.tuple #[.int .u64 n,.iface u (.int .i64 k)])∧(k=1∨k=2) else c=.returned (.tuple #[.int .u64 (fY a b),.nilIface])
def NV (c:Bool) (d:Bs) (e:Value) (w1:World) (k:Nat) (a:Act) (w:World):Prop:=
 ∃ (f:Nat→Value) (i acc:Nat) (n:Int),a=fr 172 f [(0,NU d),(1,.int .i64 (if c then 16 else 10)),(8,.bool false),(10,.int .u64 (if c then 1152921504606846976 else 1844674407370955162)),(11,.int .u64 18446744073709551615),(12,.bool false),(13,.int .u64 n),(99,e),(100,.int .i64 d.length),(101,.int .i64 i)] ∧
  w=w1∧i≤d.length∧k=d.length-i∧n=(acc:Int)∧acc<18446744073709551616∧fY c d=(d.drop i).foldl (fun n b=>n*(if c then 16 else 10)+dP b) acc
noncomputable def F4:Code:=((Tryz.f114.body).bind (Code.partAt 36)).getD .skip
structure UR (a:Bs) (b:Nat) (w1:World):Prop where
 at':∀ j,(c:j<a.length)→w1.cell? ⟨b,j,none⟩=some (.int .u8 a[j].toNat)
theorem IT (j:Bool) (g:Bs) (Z:∀ b∈g,eU j b=true) (hl:g.length≤1000000000) (b D:Nat) (w0 w1:World) (hm:UR g b w1) (hB:Below w0.heap.size w0 w1) (K:Act→World→Prop) (J:Nat→Act→World→Prop) (k:Nat)
  (f:Nat→Value) (i acc:Nat) (n:Int) (hi:i≤g.length) (hk:k=g.length-i) (hn:n=(acc:Int)) (x:acc<18446744073709551616) (l:fY j g=(g.drop i).foldl (fun n b=>n*(if j then 16 else 10)+dP b) acc)
  (hJ:∀ k a w,NV j g (.slice (some ⟨b,0,none⟩) g.length D) w1 k a w→J k a w) (hK:∀ a w,Handed J k a w→K a w) (K2:Act→World→Prop)
  (G:∀ f n,18446744073709551616 > fY j g→n=(fY j g:Int)→K2 (fr 172 f [(0,NU g),(12,.bool false),(13,.int .u64 n)]) w1) :
  F4.wp prog (Exit.then K (Exit.inBlock 3 (Exit.then K2 (bodyPost prog Tryz.f114 fun en w'=>oZ j g 237 en∧Below w0.heap.size w0 w'))))
   (fr 172 f [(0,NU g),(1,.int .i64 (if j then 16 else 10)),(8,.bool false),(10,.int .u64 (if j then 1152921504606846976 else 1844674407370955162)),(11,.int .u64 18446744073709551615),(12,.bool false),(13,.int .u64 n),(99,.slice (some ⟨b,0,none⟩) g.length D),(100,.int .i64 g.length),(101,.int .i64 i)]) w1:=by
 have n0:0≤n:=by omega
 have n1:n<18446744073709551616:=by omega
 have a2:(g.length:Int)≤1000000000:=by omega
 have ⟨X,p,HA,V,e,W⟩:=gT hk hn x hB l hJ;have Y:=Lh G;clear hk hn x hB hJ G;by_cases u:i<g.length
 ·have hc:=hm.at' i u;have s:=Z g[i] (List.getElem_mem u);rw [show g.drop i=g[i]::g.drop (i+1) from CN u,List.foldl_cons] at l;generalize g[i]=c at hc s l;obtain ⟨m,L⟩:=cK c.toNat;obtain ⟨d,M⟩:∃ d:Int,d=(dP c:Int):=⟨_,rfl⟩;have r:((48:Int)≤m∧(m:Int)≤57∧d=(m:Int)-48∧d≤9)∨(j=true∧∃ v:Nat,((97≤m∧m≤102∧v=m)∨(65≤m∧m≤70∧v=m+32))∧d=(v:Int)-97+10∧(97:Int)≤v∧(v:Int)≤102):=by
   rcases u9 s with ⟨E,F,q⟩|⟨T,E,F,q⟩|⟨T,E,F,q⟩
   ·left;omega
   ·right;exact ⟨T,m,by omega,by omega,by omega,by omega⟩
   ·right;exact ⟨T,m+32,by omega,by omega,by omega,by omega⟩
  have aC:0≤d:=by omega
  have ⟨o,e⟩:=cB M l;rw [←L] at hc;clear L s M l Z hm;unfold F4;conv=>arg 2;whnf
  cases j
  ·simp only [rW,↓reduceIte] at e ⊢;rcases r with ⟨E,F,q,h4⟩|⟨T,_⟩
   ·have C:=Lh q;have O:IntKind.u8.wrap ((m:Int)-48)=d:=by rw [IntKind.wrap_u8];omega
    have y:IntKind.u64.wrap d=d:=by rw [IntKind.wrap_u64];omega
    have Q:((m:Int)==95)=false:=by simp;omega
    have h5:d<10:=by omega
    have H:IntKind.u8.wrap 10=10:=by rw [IntKind.wrap_u8];rfl
    have I:IntKind.u64.wrap 10=10:=by rw [IntKind.wrap_u64];rfl
    have P:IntKind.i64.wrap ((i:Int)+1)=((i+1:Nat):Int):=by rw [IntKind.wrap_i64];omega
    clear q;by_cases hcut:(1844674407370955162:Int)≤n
    ·revert K;refine vg ?_;intro K hK K hK K hK;refine kW ?_;refine ⟨?_,V.o⟩;unfold oZ;rw [aY (aU (by
      rw [e.o];have h:=mT false (g.drop (i+1)) (acc*10+dP c);simp only [rW,↓reduceIte] at h;have:=p.o;omega))]
     exact ⟨_,_,rfl,by decide⟩
    ·have S:IntKind.u64.wrap (n*10)=n*10:=by rw [IntKind.wrap_u64];omega
     by_cases R:n*10+d<18446744073709551616
     ·have z:IntKind.u64.wrap (n*10+d)=n*10+d:=by rw [IntKind.wrap_u64];omega
      have A:¬ (n*10+d<n*10):=by omega
      have U:¬ (18446744073709551615<n*10+d):=by omega
      revert K;refine vg ?_;refine Kk [0,1,8,10,11,12,13,99,100,101] fun f=>?_;refine ⟨g.length-(i+1),by have:=X.o;omega,W.o _ _ _ ⟨f,i+1,acc*10+dP c,_,rfl,rfl,by omega,rfl,by have:=p.o;have:=o.o;omega,by have:=p.o;have:=o.o;omega,e.o⟩⟩
     ·have z:IntKind.u64.wrap (n*10+d)=n*10+d-18446744073709551616:=by rw [IntKind.wrap_u64];omega
      have A:n*10+d-18446744073709551616<n*10:=by omega
      revert K;refine vg ?_;intro K hK K hK K hK;refine kW ?_;refine ⟨?_,V.o⟩;unfold oZ;rw [aY (aU (by
       rw [e.o];have h:=mT false (g.drop (i+1)) (acc*10+dP c);simp only [rW,↓reduceIte] at h;have:=p.o;have:=o.o;omega))]
      exact ⟨_,_,rfl,by decide⟩
   ·cases T
  ·simp only [↓reduceIte] at e ⊢;rcases r with ⟨E,F,q,h4⟩|⟨_,v,hv,q,E,F⟩
   ·have C:=Lh q;have O:IntKind.u8.wrap ((m:Int)-48)=d:=by rw [IntKind.wrap_u8];omega
    have y:IntKind.u64.wrap d=d:=by rw [IntKind.wrap_u64];omega
    have Q:((m:Int)==95)=false:=by simp;omega
    have h5:d<16:=by omega
    have H:IntKind.u8.wrap 16=16:=by rw [IntKind.wrap_u8];rfl
    have I:IntKind.u64.wrap 16=16:=by rw [IntKind.wrap_u64];rfl
    have P:IntKind.i64.wrap ((i:Int)+1)=((i+1:Nat):Int):=by rw [IntKind.wrap_i64];omega
    clear q;by_cases hcut:(1152921504606846976:Int)≤n
    ·revert K;refine vg ?_;intro K hK K hK K hK;refine kW ?_;refine ⟨?_,V.o⟩;unfold oZ;rw [aY (aU (by
      rw [e.o];have h:=mT true (g.drop (i+1)) (acc*16+dP c);simp only [rW,↓reduceIte] at h;have:=p.o;omega))]
     exact ⟨_,_,rfl,by decide⟩
    ·have S:IntKind.u64.wrap (n*16)=n*16:=by rw [IntKind.wrap_u64];omega
     by_cases R:n*16+d<18446744073709551616
     ·have z:IntKind.u64.wrap (n*16+d)=n*16+d:=by rw [IntKind.wrap_u64];omega
      have A:¬ (n*16+d<n*16):=by omega
      have U:¬ (18446744073709551615<n*16+d):=by omega
      revert K;refine vg ?_;refine Kk [0,1,8,10,11,12,13,99,100,101] fun f=>?_;refine ⟨g.length-(i+1),by have:=X.o;omega,W.o _ _ _ ⟨f,i+1,acc*16+dP c,_,rfl,rfl,by omega,rfl,by have:=p.o;have:=o.o;omega,by have:=p.o;have:=o.o;omega,e.o⟩⟩
     ·exfalso;omega
   ·have C:=Lh q;have t:=Lh (fun w=>NT m v hv w);have a0:(57:Int)<m:=by omega
    have a1:(48:Int)≤m:=by omega
    have a3:IntKind.u8.wrap ((v:Int)-97)=(v:Int)-97:=by rw [IntKind.wrap_u8];omega
    have O:IntKind.u8.wrap ((v:Int)-97+10)=d:=by rw [IntKind.wrap_u8];omega
    have y:IntKind.u64.wrap d=d:=by rw [IntKind.wrap_u64];omega
    have Q:((m:Int)==95)=false:=by simp;omega
    have h5:d<16:=by omega
    have H:IntKind.u8.wrap 16=16:=by rw [IntKind.wrap_u8];rfl
    have I:IntKind.u64.wrap 16=16:=by rw [IntKind.wrap_u64];rfl
    have P:IntKind.i64.wrap ((i:Int)+1)=((i+1:Nat):Int):=by rw [IntKind.wrap_i64];omega
    clear q hv;revert K;refine vg ?_;intro K hK K hK K hK K hK K hK;refine (t.o _).mono ?_;rintro e1 w2 ⟨rfl,rfl⟩;(repeat revert K);refine vS ?_;intro K hK K hK K hK K hK K hK;refine (t.o _).mono ?_;rintro e1 w2 ⟨rfl,rfl⟩;(repeat revert K);refine vS ?_;intro K hK K hK K hK K hK;refine (t.o _).mono ?_;rintro e1 w2 ⟨rfl,rfl⟩;go_simp;by_cases hcut:(1152921504606846976:Int)≤n
    ·(repeat revert K);refine vg ?_;intro K hK K hK K hK;refine kW ?_;refine ⟨?_,V.o⟩;unfold oZ;rw [aY (aU (by
      rw [e.o];have h:=mT true (g.drop (i+1)) (acc*16+dP c);simp only [rW,↓reduceIte] at h;have:=p.o;omega))]
     exact ⟨_,_,rfl,by decide⟩
    ·have S:IntKind.u64.wrap (n*16)=n*16:=by rw [IntKind.wrap_u64];omega
     by_cases R:n*16+d<18446744073709551616
     ·have z:IntKind.u64.wrap (n*16+d)=n*16+d:=by rw [IntKind.wrap_u64];omega
      have A:¬ (n*16+d<n*16):=by omega
      have U:¬ (18446744073709551615<n*16+d):=by omega
      (repeat revert K);refine vg ?_;refine Kk [0,1,8,10,11,12,13,99,100,101] fun f=>?_;refine ⟨g.length-(i+1),by have:=X.o;omega,W.o _ _ _ ⟨f,i+1,acc*16+dP c,_,rfl,rfl,by omega,rfl,by have:=p.o;have:=o.o;omega,by have:=p.o;have:=o.o;omega,e.o⟩⟩
     ·exfalso;omega
 ·have aA:i=g.length:=by omega
  subst aA;have N:fY j g=acc:=by
   have:=e.o;rw [tW (dF _)] at this;exact this
  have B:=Lh N;clear N l u hi hm Z;unfold F4;conv=>arg 2;whnf
  revert K;refine vg ?_;intro K hK K hK;refine Kk [0,12,13] fun f=>?_;exact Y.o _ _ (by have:=B.o;have:=HA.o;omega) (by rw [B.o];exact p.o)
theorem BU (g:Bool) (a:Bs) (G:∀ b∈a,eU g b=true) (L:a.length≤1000000000) (w:World) :
  Calls prog 114 #[NU a,.int .i64 (if g then 16 else 10),.int .i64 64] w fun M w'=>oZ g a 237 M∧Below w.heap.size w w':=by
 have C:=Lh G;have N:IntKind.u64.wrap (IntKind.u64.wrap 18446744073709551616-1)=18446744073709551615:=by
  rw [IntKind.wrap_u64,IntKind.wrap_u64];decide
 have x:=Lib.run_convert_string_bytes (P:=prog) w 9 81 5 ⟨a.toArray⟩ underlying9 underlying81 underlying5;have B:=Lh (fun (j:Nat) (t:j<a.length)=>(Lib.bytesWorld_cell w 5 ⟨a.toArray⟩ j t));have c:=Lh (Lib.bytesWorld_below w 5 ⟨a.toArray⟩);obtain ⟨w1,s⟩:=cK (Lib.bytesWorld w 5 ⟨a.toArray⟩);rw [←s] at x B c;clear s G;by_cases l:a=[]
 ·subst l;refine eL 172 func114 [_,_,_] fun f=>?_;simp only [aF];refine vg ?_;intro K hK;refine kW ?_;refine ⟨?_,Below.refl _ _⟩;unfold oZ;rw [aY (aG rfl)];exact ⟨_,_,rfl,by decide⟩
 ·have q:True:=trivial;have y:a.isEmpty=false:=by simp [l]
  have v:=Lh l;clear l q;cases g
  all_goals
   (try simp only [rW,↓reduceIte])
   refine eL 172 func114 [_,_,_] fun f=>?_;simp only [aF];refine vg ?_;intro K hK;have o:IntKind.u64.wrap (IntKind.u64.wrap (2 ^ min (IntKind.u64.wrap 64).toNat 64)-1)=18446744073709551615:=by
    rw [IntKind.wrap_u64,IntKind.wrap_u64,IntKind.wrap_u64];decide
   refine cG [0,1,8,10,11,12,13,99,100,101] fun f=>?_;rw [o];clear o;have E:=jU a.length;have m:UR a w.heap.size w1:=⟨fun j t=>by
    have h:=B.o j t;rw [show (⟨a.toArray⟩:ByteArray).data.toList.getD j 0=a[j] by simp [List.getD,List.getElem?_eq_getElem t]] at h;exact h⟩
   first
    | refine wp_loop_ghost_k (NV false a (.slice (some ⟨w.heap.size,0,none⟩) a.length (grownCap w a.length 0 5)) w1) a.length ⟨f,0,0,0,rfl,rfl,E,rfl,rfl,by decide,by first|rfl|simp [fY]⟩ ?_
    | refine wp_loop_ghost_k (NV true a (.slice (some ⟨w.heap.size,0,none⟩) a.length (grownCap w a.length 0 5)) w1) a.length ⟨f,0,0,0,rfl,rfl,E,rfl,rfl,by decide,by first|rfl|simp [fY]⟩ ?_
   rintro k _ wr ⟨f,i,acc,n,rfl,rfl,H,I,z,d,e⟩ J D F p
   first
    | refine bB (IT false a C.o L _ _ w _ m c.o D J k f i acc n H I z d e F p K ?_) (by kernel_rfl)
    | refine bB (IT true a C.o L _ _ w _ m c.o D J k f i acc n H I z d e F p K ?_) (by kernel_rfl)
   intro f n r A;subst A;have u:=Lh r;clear r z e d;revert K;refine vg ?_;refine kW ?_;refine ⟨?_,c.o⟩;unfold oZ;rw [aQ (by
    intro h;rcases h with h|h
    ·exact v.o h
    ·have:=u.o;omega)]
end Go.Proofs.YthapcchcahnfaaaGreatDoor
namespace Go.Proofs.YthapcchcahnfaaaGreatDoor
open Go Go.Proofs.Tryz
section
variable {P:Program} {ops:Array Oper} {md:Region.Mode} {L:List Nat} {D:World→Prop}
def DD (P:Program) (ops:Array Oper) (L:List Nat) (D:World→Prop) (Q:Exit→Act→World→Prop) (i:Nat) (K:Act→World→Prop) (a:Act) (w:World):Prop:=
 match ops[i]? with
 | none=>False
 | some o=>match L.getD i 2 with
  | 0=>∃ v,Yields P ops o v a∧K (a.put o.dst v) w
  | 1=>D w∧∃ v,YieldsIf P ops D o v a∧K (a.put o.dst v) w
  | 2=>wpOp P ops Q i K a w
  | _=>wpOp P ops Q i (fun b w'=>D w'∧K b w') a w
theorem xM {Q:Exit→Act→World→Prop} {i:Nat} {K e:Act→World→Prop} {a:Act} {w:World} (h:∀ a w,K a w→e a w) (b:DD P ops L D Q i K a w):DD P ops L D Q i e a w:=by
 unfold DD at *;split
 ·simp_all
 ·rename_i o j;simp only [j] at b;split at b
  ·obtain ⟨v,c,d⟩:=b;exact ⟨v,c,h _ _ d⟩
  ·obtain ⟨g,v,c,d⟩:=b;exact ⟨g,v,c,h _ _ d⟩
  ·exact wpOp_mono h b
  ·exact wpOp_mono (fun k w' f=>⟨f.1,h _ _ f.2⟩) b
def o4 (P:Program) (md:Region.Mode) (ops:Array Oper) (L:List Nat) (D:World→Prop) (Q:Exit→Act→World→Prop):Nat→Array Bool→Act→World→Prop
 | 0,listed,a,w=>Region.ready md ops listed=[]∧Q .normal a w
 | fuel+1,listed,a,w=>
  (Region.ready md ops listed=[]→Q .normal a w) ∧
  ∀ i∈Region.ready md ops listed,DD P ops L D Q i (o4 P md ops L D Q fuel (listed.setIfInBounds i true)) a w
theorem mU {Q:Exit→Act→World→Prop}:∀ (b:Nat) (c:Array Bool) (a:Act) (w:World),o4 P md ops L D Q b c a w→wpAny P md ops Q b c a w
 | 0,_,_,_,h=>h
 | b+1,_,_,w,h=>⟨h.1,fun i l=>by
  have d:=h.2 i l;unfold DD at d;split at d
  ·exact d.elim
  ·rename_i o g;split at d
   ·obtain ⟨v,f,hK⟩:=d;exact f.wpOp g (mU b _ _ w hK)
   ·obtain ⟨k,v,f,hK⟩:=d;exact f.wpOp g k (mU b _ _ w hK)
   ·exact wpOp_mono (fun j w' e=>mU b _ _ w' e) d
   ·exact wpOp_mono (fun j w' e=>mU b _ _ w' e.2) d⟩
structure vA (md:Region.Mode) (ops:Array Oper) (L:List Nat) (i:Nat) (wt:Nat→Bool) (a:Array Bool):Prop where
 out:∀ j,wt j=true→a.getD j false=false
 cov:∀ j,j≠i→a.getD j true=false→L.getD j 2=2→wt j=true
theorem vA.not_ready {i j:Nat} {f:Nat→Bool} {a:Array Bool} (q:mG md ops i f) (h:vA md ops L i f a) (n:a.getD i true=false) (p:j∈Region.ready md ops a):f j=false:=by
 cases r:f j with
 | false=>rfl
 | true=>
  obtain ⟨s,k,e,m,l,c⟩:=q j r;obtain ⟨_,o,g,b⟩:=mem_ready.1 p;have:o=s:=Option.some.inj (g.symm.trans k);subst this;have d:=b e m l;rcases c with c|c
  ·rw [c,nB n] at d;cases d
  ·rw [h.out _ c] at d;cases d
theorem vA.set {i j:Nat} {f:Nat→Bool} {a:Array Bool} (h:vA md ops L i f a) (g:f j=false):vA md ops L i f (a.setIfInBounds j true):=by
 refine ⟨fun k c=>?_,fun k c d l=>?_⟩
 ·have:j≠k:=fun e=>by subst e;rw [g] at c;cases c
  rw [getD_set_ne false this];exact h.out k c
 ·by_cases b:j=k
  ·subst b;rcases Nat.lt_or_ge j a.size with h'|h'
   ·simp [h'] at d
   ·simp at d
  ·rw [getD_set_ne true b] at d;exact h.cov k c d l
theorem sV {Q:Exit→Act→World→Prop} {i:Nat} {n:Oper} {v:Value} (hi:ops[i]?=some n) (O:∀ (j:Nat) (o:Oper) cs b,ops[j]?=some o→o.op≠.select cs b)
  (hQ:∀ c a w,Q (.panic c) (a.put n.dst v) w→Q (.panic c) a w) (wt:Nat→Bool) (Z:L.getD i 2=1→mG md ops i wt) (m:L.getD i 2=0∨L.getD i 2=1) :
  ∀ (f:Nat) (d:Array Bool) (a:Act) (w:World),
   (∀ j q,ops[j]?=some q→j≠i→d.getD j true=false→(∀ e∈q.after,Region.binds md e=true→e.on≠i)→n.apart ops q=true) →
   (L.getD i 2=1→vA md ops L i wt d) →
   i∈Region.ready md ops d→(L.getD i 2=0→Yields P ops n v a)→(L.getD i 2=1→D w∧YieldsIf P ops D n v a) →
   o4 P md ops L D Q f (d.setIfInBounds i true) (a.put n.dst v) w→o4 P md ops L D Q (f+1) d a w:=by
 intro f
 have S:∀ (f:Nat) (d:Array Bool) (a:Act) (w:World),(L.getD i 2=0→Yields P ops n v a)→(L.getD i 2=1→D w∧YieldsIf P ops D n v a) →
   o4 P md ops L D Q f (d.setIfInBounds i true) (a.put n.dst v) w→DD P ops L D Q i (o4 P md ops L D Q f (d.setIfInBounds i true)) a w:=by
  intro f d a w J t H;unfold DD;simp only [hi];rcases m with m|m
  ·simp only [m];exact ⟨v,J m,H⟩
  ·simp only [m];exact ⟨(t m).1,v,(t m).2,H⟩
 induction f with
 | zero=>
  intro d a w _ _ T J t H;refine ⟨fun h=>(by rw [h] at T;cases T),fun j U=>?_⟩;by_cases l:j=i
  ·subst l;exact S _ _ _ _ J t H
  ·have:=ready_mono U l;rw [H.1] at this;cases this
 | succ f ih=>
  intro d a w y N T J t H;refine ⟨fun h=>(by rw [h] at T;cases T),fun j U=>?_⟩;by_cases l:j=i
  ·subst l;exact S _ _ _ _ J t H
  ·have z:=H.2 j (ready_mono U l);obtain ⟨B,q,s,V⟩:=mem_ready.1 U;have A:=(mem_ready.1 T).1;have X:∀ e∈q.after,Region.binds md e=true→e.on≠i:=fun e he hb aA=>by
    have t:=V e he hb;rw [aA,nB A] at t;cases t
   have M:=y j q s l B X
   have g:∀ k ok,ops[k]?=some ok→k≠i→(d.setIfInBounds j true).getD k true=false →
     (∀ e∈ok.after,Region.binds md e=true→e.on≠i)→n.apart ops ok=true:=fun k ok hk aC Y a0=>by
    refine y k ok hk aC ?_ a0;by_cases W:j=k
    ·subst W;exact B
    ·rw [getD_set_ne true W] at Y;exact Y
   have p:L.getD i 2=1→vA md ops L i wt (d.setIfInBounds j true):=fun h=>(N h).set ((N h).not_ready (Z h) A U);have C:=ready_mono T (Ne.symm l);obtain ⟨p1,p2,p3⟩:=Oper.apart_spec M;have E:=fun cs b=>O i n cs b hi;have F:=fun cs b=>O j q cs b s;have G:∀ (a:Act),(L.getD i 2=0→Yields P ops n v a)→∀ u,(L.getD i 2=0→Yields P ops n v (a.put q.dst u)):=fun a R u h=>
    (R h).of_same (execOp_put n E a q.dst u p3) (wanted_put n a q.dst u p3)
   have I:∀ (a:Act),(L.getD i 2=1→D w∧YieldsIf P ops D n v a)→∀ u,(L.getD i 2=1→D w∧YieldsIf P ops D n v (a.put q.dst u)):=fun a R u h=>
    ⟨(R h).1,(R h).2.of_same (execOp_put n E a q.dst u p3) (wanted_put n a q.dst u p3)⟩
   unfold DD at z ⊢;simp only [s] at z ⊢;split
   ·rename_i r;simp only [r] at z;obtain ⟨u,R,hK⟩:=z;refine ⟨u,R.of_same (execOp_put q F a n.dst v p1).symm (wanted_put q a n.dst v p1).symm,ih _ _ _ g p C (G a J u) (I a t u) ?_⟩;rw [Array.setIfInBounds_comm _ _ l,←Act.put_comm a v u p2];exact hK
   ·rename_i r;simp only [r] at z;obtain ⟨hD,u,R,hK⟩:=z;refine ⟨hD,u,R.of_same (execOp_put q F a n.dst v p1).symm (wanted_put q a n.dst v p1).symm,ih _ _ _ g p C (G a J u) (I a t u) ?_⟩;rw [Array.setIfInBounds_comm _ _ l,←Act.put_comm a v u p2];exact hK
   ·rename_i r;simp only [r] at z;rcases m with m|m
    ·refine wpOp_mono (fun a' w' x=>?_) (wpOp_put s M E F hQ (J m) z);refine ih _ _ _ g p C (fun _=>x.1) (fun h=>by rw [m] at h;cases h) ?_;rw [Array.setIfInBounds_comm _ _ l];exact x.2
    ·have h2:=(N m).not_ready (Z m) A U;rw [(N m).cov j l B r] at h2;cases h2
   ·rename_i n0 n1 n2;split at z
    ·exact absurd (by assumption) n0
    ·exact absurd (by assumption) n1
    ·exact absurd (by assumption) n2
    ·rcases m with m|m
     ·refine wpOp_mono (fun a' w' x=>?_) (wpOp_put s M E F hQ (J m) z);refine ⟨x.2.1,ih _ _ _ g p C (fun _=>x.1) (fun h=>by rw [m] at h;cases h) ?_⟩;rw [Array.setIfInBounds_comm _ _ l];exact x.2.2
     ·refine wpOp_mono (fun a' w' x=>?_) (wpOp_putIf s M E F hQ (t m).2 z);refine ⟨x.2.1,ih _ _ _ g p C (fun h=>by rw [m] at h;cases h) (fun _=>⟨x.2.1,x.1⟩) ?_⟩;rw [Array.setIfInBounds_comm _ _ l];exact x.2.2
inductive PT where
 | nil
 | one (k:Nat) (t:PT)
 | two (i j:Nat) (a b:PT)
def BV (md:Region.Mode) (ops:Array Oper) (L:List Nat) (a:Array Bool) (i:Nat):Bool:=
 let wt:=lC md ops i
 decide (wt.size=ops.size)&&(List.range ops.size).all fun j=>
  (j==i||a.getD j true||!(L.getD j 2==2)||wt.getD j false) &&
  (!wt.getD j false||(!a.getD j false&&match ops[j]? with
   | some oj=>oj.after.any fun e=>Region.binds md e&&(e.on==i||wt.getD e.on false)
   | none=>false))
theorem BW {a:Array Bool} {i:Nat} (h:BV md ops L a i=true):mG md ops i (fun j=>(lC md ops i).getD j false)∧(a.size=ops.size→vA md ops L i (fun j=>(lC md ops i).getD j false) a):=by
 simp only [BV,Bool.and_eq_true,decide_eq_true_eq,List.all_eq_true,List.mem_range] at h;obtain ⟨q,h⟩:=h;have f:∀ j,(lC md ops i).getD j false=true→j<ops.size:=fun j c=>by
  rcases Nat.lt_or_ge j (lC md ops i).size with h'|h'
  ·omega
  ·simp [Array.getElem?_eq_none h'] at c
 refine ⟨fun j c=>?_,fun r=>⟨fun j c=>?_,fun j l d o=>?_⟩⟩
 ·have b:=(h j (f j c)).2;simp only [c,Bool.not_true,Bool.false_or,Bool.and_eq_true] at b;have g:=b.2;split at g
  ·rename_i p m;obtain ⟨e,n,k⟩:=Array.any_eq_true'.1 g;simp only [Bool.and_eq_true,Bool.or_eq_true,beq_iff_eq] at k;exact ⟨p,m,e,n,k.1,k.2⟩
  ·cases g
 ·have b:=(h j (f j c)).2;simp only [c,Bool.not_true,Bool.false_or,Bool.and_eq_true,Bool.not_eq_true'] at b;exact b.1
 ·have c:j<ops.size:=by
   rcases Nat.lt_or_ge j a.size with h'|h'
   ·omega
   ·simp [Array.getElem?_eq_none h'] at d
  have b:=(h j c).1;rw [o] at b;simp only [Bool.or_eq_true,beq_iff_eq,l,d,BEq.rfl,Bool.not_true,Bool.false_eq_true,false_or,or_false] at b;exact b
def nH (md:Region.Mode) (ops:Array Oper) (L:List Nat):PT→Nat→Array Bool→Bool
 | .nil,n,listed=>n==0&&(Region.ready md ops listed).isEmpty
 | .one k t,n,listed=>decide (0<n)&&(Region.ready md ops listed).contains k&&(match L.getD k 2 with
   | 0=>Region.free md ops listed k
   | 1=>Region.free md ops listed k&&BV md ops L listed k
   | _=>Region.ready md ops listed==[k])&&nH md ops L t (n-1) (listed.setIfInBounds k true)
 | .two i j ti tj,n,listed=>decide (0<n)&&Region.ready md ops listed==[i,j]&&nH md ops L ti (n-1) (listed.setIfInBounds i true)&&nH md ops L tj (n-1) (listed.setIfInBounds j true)
def kG (P:Program) (ops:Array Oper) (L:List Nat) (D:World→Prop) (Q:Exit→Act→World→Prop):PT→Act→World→Prop
 | .nil,a,w=>Q .normal a w
 | .one k t,a,w=>DD P ops L D Q k (kG P ops L D Q t) a w
 | .two i j ti tj,a,w=>DD P ops L D Q i (kG P ops L D Q ti) a w∧DD P ops L D Q j (kG P ops L D Q tj) a w
theorem q8 {Q:Exit→Act→World→Prop} (y:Region.noSelect ops=true) (s:∀ c a w,¬ Q (.panic c) a w):∀ (t:PT) (n:Nat) (b:Array Bool) (a:Act) (w:World),b.size=ops.size →
  nH md ops L t n b=true→kG P ops L D Q t a w→o4 P md ops L D Q n b a w
 | .nil,n,b,a,w,_,g,h=>by
  simp only [nH,Bool.and_eq_true,beq_iff_eq,List.isEmpty_iff] at g;obtain ⟨rfl,g⟩:=g;exact ⟨g,h⟩
 | .one k t,n,b,a,w,z,g,h=>by
  simp only [nH,Bool.and_eq_true,decide_eq_true_eq] at g;obtain ⟨⟨⟨O,B⟩,l⟩,C⟩:=g;obtain ⟨n,rfl⟩:∃ m,n=m+1:=⟨n-1,by omega⟩;have u:k∈Region.ready md ops b:=by simpa using B
  have I:(b.setIfInBounds k true).size=ops.size:=by simpa using z
  have x:=fun r w'=>q8 y s t n (b.setIfInBounds k true) r w' I C;have J:DD P ops L D Q k (o4 P md ops L D Q n (b.setIfInBounds k true)) a w:=xM x h;have e:Region.ready md ops b=[k]→o4 P md ops L D Q (n+1) b a w:=fun p=>
   ⟨fun d=>(by rw [p] at d;cases d),fun i M=>by
    rw [p] at M;have:i=k:=by simpa using M
    subst this;exact J⟩
  have q:=J;unfold DD at q;split at q
  ·exact q.elim
  ·rename_i o A;split at q
   ·rename_i f;simp only [f] at l;obtain ⟨v,H,hK⟩:=q
    exact sV A (Region.noSelect_spec y) (fun c a w d=>(s _ _ _ d).elim) (fun _=>false) (fun d=>by rw [f] at d;cases d) (.inl f) _ _ _ _ (Region.free_spec A l)
     (fun d=>by rw [f] at d;cases d) u (fun _=>H) (fun d=>by rw [f] at d;cases d) hK
   ·rename_i f;simp only [f,Bool.and_eq_true] at l;obtain ⟨N,v,H,hK⟩:=q;obtain ⟨w1,T⟩:=BW l.2
    exact sV A (Region.noSelect_spec y) (fun c a w d=>(s _ _ _ d).elim) _ (fun _=>w1) (.inr f) _ _ _ _ (Region.free_spec A l.1)
     (fun _=>T z) u (fun d=>by rw [f] at d;cases d) (fun _=>⟨N,H⟩) hK
   ·rename_i f;simp only [f] at l;exact e (by simpa using l)
   ·rename_i R S U;refine e ?_;split at l
    ·exact absurd (by assumption) R
    ·exact absurd (by assumption) S
    ·simpa using l
 | .two i j ti tj,n,b,a,w,z,g,h=>by
  simp only [nH,Bool.and_eq_true,decide_eq_true_eq,beq_iff_eq] at g;obtain ⟨⟨⟨O,B⟩,E⟩,F⟩:=g;obtain ⟨n,rfl⟩:∃ m,n=m+1:=⟨n-1,by omega⟩;refine ⟨fun d=>(by rw [B] at d;cases d),fun k G=>?_⟩;rw [B] at G;simp only [List.mem_cons,List.not_mem_nil,or_false] at G;rcases G with rfl|rfl
  ·exact xM (fun r w'=>q8 y s ti n _ r w' (by simpa using z) E) h.1
  ·exact xM (fun r w'=>q8 y s tj n _ r w' (by simpa using z) F) h.2
theorem sW {j:Nat} {Q:Exit→Act→World→Prop} {a:Act} {w:World} {l:List Oper} (L:List Nat) (t:PT) (D:World→Prop) (f:P.follows .mixedOrders=true)
  (b:(Region.noSelect l.toArray&&nH .any l.toArray L t l.length (Array.replicate l.length false))=true)
  (h:kG P l.toArray L D (NoPanic Q) t a w.drew):(Code.region j l.toArray true).wp P Q a w:=by
 simp only [Bool.and_eq_true] at b;obtain ⟨i,g⟩:=b;refine wp_region_noPanic (wp_region_any f ?_);have:=q8 (md:=.any) i (fun c a w e=>e) t l.length (Array.replicate l.length false) a w.drew (by simp) g h;have d:=mU (md:=.any) _ _ _ _ this;simpa using d
theorem lL {Q:Exit→Act→World→Prop} {a:Act} {w:World} (h:Q .normal a w):kG P ops L D (NoPanic Q) .nil a w:=NoPanic.normal h
theorem jQ {Q:Exit→Act→World→Prop} {a:Act} {w:World} {k:Nat} {t:PT} {o:Oper} (i:ops[k]?=some o) (g:L.getD k 2=0)
  (h:∀ K:Act→Prop,(∀ a,kG P ops L D Q t a w→K a)→if Region.wanted o (yielded ops a.tmps) then FO P o a K else K (a.put o.dst undef)):kG P ops L D Q (.one k t) a w:=by
 have:=h (fun d=>kG P ops L D Q t d w) (fun _ h=>h);simp only [kG,DD,i,g];split at this
 ·rename_i c;obtain ⟨v,e,f⟩:=this;refine ⟨v,.inl ⟨c,fun w=>?_⟩,f⟩;have b:=e w;unfold rX at b;generalize (execOp a.eval o).run P w=r at *;cases r with
  | ok n w'=>cases n<;>simp only [lI] at b;rw [b.1,b.2]
  | halt x w'=>simp only [lI] at b
 ·rename_i c;exact ⟨undef,.inr ⟨by simpa using c,rfl⟩,this⟩
def VL (P:Program) (D:World→Prop) (o:Oper) (a:Act) (next:Act→Prop):Prop:=∃ v,(∀ w,D w→rX P o a w v)∧next (a.put o.dst v)
theorem KO {Q:Exit→Act→World→Prop} {a:Act} {w:World} {k:Nat} {t:PT} {o:Oper} (j:ops[k]?=some o) (i:L.getD k 2=1) (g:D w)
  (h:if Region.wanted o (yielded ops a.tmps) then VL P D o a (fun d=>kG P ops L D Q t d w) else kG P ops L D Q t (a.put o.dst undef) w):kG P ops L D Q (.one k t) a w:=by
 simp only [kG,DD,j,i];refine ⟨g,?_⟩;split at h
 ·rename_i c;obtain ⟨v,e,f⟩:=h;refine ⟨v,.inl ⟨c,fun w c=>?_⟩,f⟩;have b:=e w c;unfold rX at b;generalize (execOp a.eval o).run P w=r at *;cases r with
  | ok n w'=>cases n<;>simp only [lI] at b;rw [b.1,b.2]
  | halt x w'=>simp only [lI] at b
 ·rename_i c;exact ⟨undef,.inr ⟨by simpa using c,rfl⟩,h⟩
theorem kH {Q:Exit→Act→World→Prop} {a:Act} {w:World} {k:Nat} {t:PT} {o:Oper} (c:ops[k]?=some o) (f:L.getD k 2=2)
  (h:∀ (K:Act→World→Prop),Shut (∀ b w',kG P ops L D Q t b w'→K b w')→if Region.wanted o (yielded ops a.tmps)=true then Oper.wp P o a w K Q else K (a.put o.dst undef) w) :
  kG P ops L D Q (.one k t) a w:=by
 simp only [kG,DD,c,f];exact wpOp_mono (fun b w' e=>e) (wpOp_step c fun d hK=>h d hK)
theorem kY {Q:Exit→Act→World→Prop} {a:Act} {w:World} {k:Nat} {t:PT} {o:Oper} (c:ops[k]?=some o) (i:L.getD k 2=3)
  (h:∀ (K:Act→World→Prop),Shut (∀ b w',D w'→kG P ops L D Q t b w'→K b w')→if Region.wanted o (yielded ops a.tmps)=true then Oper.wp P o a w K Q else K (a.put o.dst undef) w) :
  kG P ops L D Q (.one k t) a w:=by
 simp only [kG,DD,c,i];exact wpOp_mono (fun b w' e=>e) (wpOp_step c fun d hK=>h d (fun b w' f g=>hK b w' ⟨f,g⟩))
theorem pW {o:Oper} (a:o.guard=none) (y:Nat→Option Bool):Region.wanted o y=true:=by
 unfold Region.wanted;rw [a]
theorem o5 {Q:Exit→Act→World→Prop} {a:Act} {w:World} {k:Nat} {t:PT} {o:Oper} (g:ops[k]?=some o) (c:L.getD k 2=1) (b:D w) (f:o.guard=none) (d:Option Tmp) (e:o.dst=d) (v:Value) (i:∀ w',D w'→rX P o a w' v)
  (h:kG P ops L D Q t (a.put d v) w):kG P ops L D Q (.one k t) a w:=by
 subst e;refine KO g c b ?_;rw [if_pos (pW f _)];exact ⟨v,i,h⟩
theorem NW {Q:Exit→Act→World→Prop} {a:Act} {w w':World} {k:Nat} {t:PT} {o:Oper} (n:ops[k]?=some o) (j:L.getD k 2=2) (m:o.guard=none) (d:Option Tmp) (l:o.dst=d) (s x:Operand) (e f:TypeId) (c:o.op=.call { callee:=.builtin .append,args:=#[s,x],argTypes:=#[e,f] }) (g i v':Value)
  (p:a.eval s=g) (q:a.eval x=i) (b:(Builtin.append_ #[e,f] o.type #[g,i]).run P w=.ok v' w') (h:kG P ops L D Q t (a.put d v') w'):kG P ops L D Q (.one k t) a w:=by
 subst l;refine kH n j (fun K hK=>?_);rw [if_pos (pW m _)];unfold Oper.wp;simp only [execOp,c,resolve,invoke,builtin];simp [p,q,b,Result.andThen];exact hK.out _ _ h
theorem mJ {Q:Exit→Act→World→Prop} {a:Act} {w w':World} {k:Nat} {t:PT} {o:Oper} (p:ops[k]?=some o) (l:L.getD k 2=3) (n:o.guard=none) (d:Option Tmp) (m:o.dst=d) (s x:Operand) (e f:TypeId) (c:o.op=.call { callee:=.builtin .append,args:=#[s,x],argTypes:=#[e,f] }) (g i v':Value)
  (q:a.eval s=g) (r:a.eval x=i) (b:(Builtin.append_ #[e,f] o.type #[g,i]).run P w=.ok v' w') (j:D w') (h:kG P ops L D Q t (a.put d v') w'):kG P ops L D Q (.one k t) a w:=by
 subst m;refine kY p l (fun K hK=>?_);rw [if_pos (pW n _)];unfold Oper.wp;simp only [execOp,c,resolve,invoke,builtin];simp [q,r,b,Result.andThen];exact hK.out _ _ j h
theorem DE {Q:Exit→Act→World→Prop} {a:Act} {w:World} {i j:Nat} {b c:PT} (d:kG P ops L D Q (.one i b) a w) (e:kG P ops L D Q (.one j c) a w):kG P ops L D Q (.two i j b c) a w:=⟨d,e⟩
end
end Go.Proofs.YthapcchcahnfaaaGreatDoor
